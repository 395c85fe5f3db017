import PyProof.Rows.All
import Wide.All
import OpenK.AllK
import Wide.FinOn
import PySem.Challenge.RW_rl0083_01
set_option Elab.async false
section
/-! A pure evaluator over the program's own syntax trees. -/
namespace Mine
/-- the goal put behind a name, while things are taken apart -/
@[elab_as_elim] theorem res1 {α : Type} {P : α → Prop} {a a' : α} (h : some a = some a') (g : P a) : P a' := by
  cases h
  exact g
@[elab_as_elim] theorem res3 {α β γ : Type} {P : α → β → γ → Prop} {a a' : α} {b b' : β} {c c' : γ} (h : some (a, b, c) = some (a', b', c')) (g : P a b c) : P a' b' c' := by
  cases h
  exact g
@[elab_as_elim] theorem res2 {α β : Type} {P : α → β → Prop} {a a' : α} {b b' : β} (h : some (a, b) = some (a', b')) (g : P a b) : P a' b' := by
  cases h
  exact g
theorem hide {P : Prop} (h : ∀ G : Prop, (P → G) → G) : P := h P fun p => p
open PySem

inductive AV where
  | none | bool (b : Bool) | int (i : Int) | flt (x : UInt64) | str (s : Str) | ref (k : Nat) | scr
  deriving DecidableEq
inductive AO where
  | list (l : List AV) | tup (l : List AV) | dict (l : List (Int × Int)) | inst (d : Nat) | attrs (l : List (Str × AV))
  deriving DecidableEq
inductive AF where
  | next | brk | ret (v : AV)
abbrev AH := List AO
abbrev AL := Str → Option AV
abbrev Names := List (Str × NameKind)

noncomputable def isVar (N : Names) (x : Str) : Bool := x != "__debug__" && match N.lookup x with
  | some .local => true
  | some .cell => true
  | _ => false
noncomputable def isGlob (N : Names) (x : Str) : Bool := match N.lookup x with
  | some .globalImplicit => true
  | _ => false
noncomputable def put (l : AL) (x : Str) (v : AV) : AL := fun y => if y = x then some v else l y

/-- ints that stand in lists -/
noncomputable def ints? : List AV → Option (List Int)
  | [] => some []
  | .int i :: r => (ints? r).map (i :: ·)
  | _ => Option.none
noncomputable def strs? : List AV → Option (List Str)
  | [] => some []
  | .str i :: r => (strs? r).map (i :: ·)
  | _ => Option.none
noncomputable def listO (o : Option AO) : Option (List AV) := match o with
  | some (.list l) => some l
  | _ => Option.none
noncomputable def listAt (H : AH) (k : Nat) : Option (List AV) := listO H[k]?
noncomputable def tupO (o : Option AO) : Option (List AV) := match o with
  | some (.tup l) => some l
  | _ => Option.none
noncomputable def tupAt (H : AH) (k : Nat) : Option (List AV) := tupO H[k]?
noncomputable def dictO (o : Option AO) : Option (List (Int × Int)) := match o with
  | some (.dict l) => some l
  | _ => Option.none
noncomputable def dictAt (H : AH) (k : Nat) : Option (List (Int × Int)) := dictO H[k]?

noncomputable def instO (o : Option AO) : Option Nat := match o with
  | some (.inst l) => some l
  | _ => Option.none
noncomputable def instAt (H : AH) (k : Nat) : Option Nat := instO H[k]?
noncomputable def attrsO (o : Option AO) : Option (List (Str × AV)) := match o with
  | some (.attrs l) => some l
  | _ => Option.none
noncomputable def attrsAt (H : AH) (k : Nat) : Option (List (Str × AV)) := attrsO H[k]?

/-! Bounds that the kernel does not count out. -/
theorem lim_ex (n : Nat) : ∃ m, m = n := ⟨n, rfl⟩
noncomputable def sizeLim : Nat := Classical.choose (lim_ex 1000000)
theorem sizeLim_is : sizeLim = 1000000 := Classical.choose_spec (lim_ex 1000000)
noncomputable def smallLim : Nat := Classical.choose (lim_ex 1000000000)
theorem smallLim_is : smallLim = 1000000000 := Classical.choose_spec (lim_ex 1000000000)
noncomputable def small (i : Int) : Bool := decide (i.natAbs < smallLim)
noncomputable def sizeOk (n : Nat) : Bool := decide (n ≤ sizeLim)
theorem small_lit {i : Int} (h1 : -1000000000 < i) (h2 : i < 1000000000) : small i = true := decide_eq_true (by rw [smallLim_is]; omega)
theorem size_le {n : Nat} (h : n ≤ 1000000) : sizeOk n = true := decide_eq_true (by rw [sizeLim_is]; exact h)
theorem small_of {i : Int} (h : small i = true) : -1000000000 < i ∧ i < 1000000000 := by
  have h := of_decide_eq_true h
  rw [smallLim_is] at h
  omega
theorem sizeOk_of {n : Nat} (h : sizeOk n = true) : n ≤ 1000000 := by
  have h := of_decide_eq_true h
  rw [sizeLim_is] at h
  exact h

noncomputable def alloc (H : AH) (o : AO) : Option (AV × AH) := some (.ref H.length, H ++ [o])

/-- what comes next, where something came out -/
noncomputable def obind {α β : Type} (o : Option (α × AH)) (f : α → AH → Option β) : Option β := match o with
  | some (v, H) => f v H
  | Option.none => Option.none
noncomputable def onInt {β : Type} (v : AV) (f : Int → Option β) : Option β := match v with
  | .int i => f i
  | _ => Option.none
noncomputable def onFlt {β : Type} (v : AV) (f : UInt64 → Option β) : Option β := match v with
  | .flt i => f i
  | _ => Option.none
noncomputable def onStr {β : Type} (v : AV) (f : Str → Option β) : Option β := match v with
  | .str i => f i
  | _ => Option.none
noncomputable def onRef {β : Type} (v : AV) (f : Nat → Option β) : Option β := match v with
  | .ref i => f i
  | _ => Option.none
noncomputable def onBool {β : Type} (v : AV) (f : Bool → Option β) : Option β := match v with
  | .bool i => f i
  | _ => Option.none
noncomputable def onOne {α β : Type} (l : List α) (f : α → Option β) : Option β := match l with
  | [a] => f a
  | _ => Option.none
noncomputable def onTwo {α β : Type} (l : List α) (f : α → α → Option β) : Option β := match l with
  | [a, b] => f a b
  | _ => Option.none

/-- a text so many times over -/
noncomputable def mulS (x : Str) (n : Int) : Str := ⟨(List.replicate n.toNat x.cps.toList).flatten.toArray⟩
noncomputable def addV (a b : AV) (H : AH) : Option (AV × AH) := match a with
  | .int x => onInt b fun y => some (.int (x + y), H)
  | .str x => onStr b fun y => if sizeOk (x.length + y.length) = true then some (.str (x ++ y), H) else Option.none
  | .ref j => onRef b fun k => (listAt H j).bind fun x => (listAt H k).bind fun y => if sizeOk (x.length + y.length) = true then alloc H (.list (x ++ y)) else Option.none
  | .flt x => onFlt b fun y => some (.flt (Float64.add x y), H)
  | .none => Option.none
  | .bool _ => Option.none
  | .scr => Option.none
noncomputable def subV (a b : AV) (H : AH) : Option (AV × AH) := match a with
  | .int x => onInt b fun y => some (.int (x - y), H)
  | .flt x => (match b with
    | .flt y => some (.flt (Float64.sub x y), H)
    | .int n => if Float64.isInf (Float64.ofInt n) = true then Option.none else some (.flt (Float64.sub x (Float64.ofInt n)), H)
    | .none => Option.none
    | .bool _ => Option.none
    | .str _ => Option.none
    | .ref _ => Option.none
    | .scr => Option.none)
  | .str _ => Option.none
  | .ref _ => Option.none
  | .none => Option.none
  | .bool _ => Option.none
  | .scr => Option.none
noncomputable def mulV (a b : AV) (H : AH) : Option (AV × AH) := match a with
  | .int x => onInt b fun y => if (small x || small y) = true then some (.int (x * y), H) else Option.none
  | .str x => onInt b fun n => if (sizeOk (x.length * n.toNat) && small n) = true then some (.str (mulS x n), H) else Option.none
  | .ref j => onInt b fun n => (listAt H j).bind fun x => if (sizeOk (x.length * n.toNat) && small n) = true then alloc H (.list (List.replicate n.toNat x).flatten) else Option.none
  | .flt x => onFlt b fun y => some (.flt (Float64.mul x y), H)
  | .none => Option.none
  | .bool _ => Option.none
  | .scr => Option.none
noncomputable def divV (a b : AV) (H : AH) : Option (AV × AH) := onInt a fun x => match b with
  | .int y => if (y != 0 && !(Float64.isInf (Float64.ofFrac (decide (x < 0) != decide (y < 0)) x.natAbs y.natAbs))) = true then some (.flt (Float64.ofFrac (decide (x < 0) != decide (y < 0)) x.natAbs y.natAbs), H) else Option.none
  | .flt y => if (!(Float64.isInf (Float64.ofInt x)) && !(Float64.isZero y)) = true then some (.flt (Float64.div (Float64.ofInt x) y), H) else Option.none
  | .none => Option.none
  | .bool _ => Option.none
  | .str _ => Option.none
  | .ref _ => Option.none
  | .scr => Option.none
noncomputable def binop (op : Operator) (a b : AV) (H : AH) : Option (AV × AH) := match op with
  | .Add => addV a b H
  | .Sub => subV a b H
  | .Mult => mulV a b H
  | .FloorDiv => onInt a fun x => onInt b fun y => if (small y && y != 0) = true then some (.int (x.fdiv y), H) else Option.none
  | .Mod => onInt a fun x => onInt b fun y => if (y != 0) = true then some (.int (x.fmod y), H) else Option.none
  | .Div => divV a b H
  | .MatMult => Option.none
  | .Pow => Option.none
  | .LShift => Option.none
  | .RShift => Option.none
  | .BitOr => Option.none
  | .BitXor => Option.none
  | .BitAnd => Option.none

/-- the parts of two lists or tuples, side by side -/
noncomputable def eqs (f : AV → AV → Option Bool) : List AV → List AV → Option Bool
  | [], [] => some true
  | [], _ :: _ => some false
  | _ :: _, [] => some false
  | a :: r, b :: q => match f a b, eqs f r q with
    | some x, some y => some (x && y)
    | _, _ => Option.none
noncomputable def eqB (a b : AV) : Option Bool := match a with
  | .int x => onInt b fun y => some (x == y)
  | .str x => onStr b fun y => some (x == y)
  | .flt _ => Option.none
  | .ref _ => Option.none
  | .none => Option.none
  | .bool _ => Option.none
  | .scr => Option.none
noncomputable def refOf (a : AV) : Option Nat := match a with
  | .ref j => some j
  | _ => Option.none
noncomputable def eqR (f : AV → AV → Option Bool) (H : AH) (j k : Nat) : Option Bool := match listAt H j with
  | some x => (listAt H k).bind fun y => eqs f x y
  | Option.none => (tupAt H j).bind fun x => (tupAt H k).bind fun y => eqs f x y
noncomputable def eqV : Nat → AH → AV → AV → Option Bool
  | 0, _, a, b => eqB a b
  | n + 1, H, a, b => match refOf a with
    | some j => onRef b fun k => eqR (eqV n H) H j k
    | Option.none => eqB a b
noncomputable def neg? : Option Bool → Option Bool
  | some b => some (!b)
  | Option.none => Option.none
noncomputable def emptyAt (H : AH) (k : Nat) : Bool := match dictAt H k with
  | some [] => true
  | _ => false
noncomputable def eqOp (a b : AV) (H : AH) : Option Bool := match a with
  | .int x => onInt b fun y => some (x == y)
  | .str x => onStr b fun y => some (x == y)
  | .bool x => onBool b fun y => some (x == y)
  | .flt x => onFlt b fun y => some (Float64.cmp x y == some Ordering.eq)
  | .ref j => onRef b fun k => if emptyAt H k = true then (dictAt H j).map List.isEmpty else eqV 3 H (.ref j) (.ref k)
  | .none => Option.none
  | .scr => Option.none
noncomputable def neOp (a b : AV) (H : AH) : Option Bool := match a with
  | .int x => onInt b fun y => some (x != y)
  | .str x => onStr b fun y => some (x != y)
  | .bool x => onBool b fun y => some (x != y)
  | .ref j => onRef b fun k => neg? (eqV 3 H (.ref j) (.ref k))
  | .flt _ => Option.none
  | .none => Option.none
  | .scr => Option.none
noncomputable def isNone (v : AV) : Bool := match v with
  | .none => true
  | _ => false
noncomputable def isOp (a b : AV) : Option Bool := match a with
  | .none => if isNone b = true then some true else Option.none
  | .int _ => if isNone b = true then some false else Option.none
  | .bool x => onBool b fun y => some (x == y)
  | .flt _ => Option.none
  | .str _ => Option.none
  | .ref _ => Option.none
  | .scr => Option.none
noncomputable def cmpop (op : CmpOp) (a b : AV) (H : AH) : Option Bool := match op with
  | .Eq => eqOp a b H
  | .NotEq => neOp a b H
  | .Lt => onInt a fun x => onInt b fun y => some (decide (x < y))
  | .LtE => onInt a fun x => onInt b fun y => some (decide (x ≤ y))
  | .Gt => onInt a fun x => onInt b fun y => some (decide (y < x))
  | .GtE => onInt a fun x => onInt b fun y => some (decide (y ≤ x))
  | .Is => isOp a b
  | .IsNot => onBool a fun x => onBool b fun y => some (!(x == y))
  | .In => onStr a fun y => onStr b fun x => some (!(Builtin.Str.occurrences x y 0 x.length 1).isEmpty)
  | .NotIn => onStr a fun y => onStr b fun x => some (!(!(Builtin.Str.occurrences x y 0 x.length 1).isEmpty))

noncomputable def getO (H : AH) (i : Int) (o : Option AO) : Option (AV × AH) := match o with
  | some (.list l) => if 0 ≤ i then (l[i.toNat]?).map (·, H) else Option.none
  | some (.tup l) => if 0 ≤ i then (l[i.toNat]?).map (·, H) else Option.none
  | some (.dict l) => (l.lookup i).map fun v => (AV.int v, H)
  | some (.inst _) => Option.none
  | some (.attrs _) => Option.none
  | Option.none => Option.none
noncomputable def getRef (H : AH) (k : Nat) (i : Int) : Option (AV × AH) := getO H i H[k]?
noncomputable def getItem (a b : AV) (H : AH) : Option (AV × AH) := match a with
  | .ref k => onInt b fun i => if small i = true then getRef H k i else Option.none
  | .str s => onInt b fun i => if small i = true then ((seqIndex? i s.length).bind (s.cps[·]?)).map fun c => (AV.str ⟨#[c]⟩, H) else Option.none
  | .int _ => Option.none
  | .none => Option.none
  | .bool _ => Option.none
  | .flt _ => Option.none
  | .scr => Option.none
noncomputable def pickL {α : Type} (l : List α) (lo hi st : Option Int) : List α :=
  (sliceRange (sliceBounds lo hi st l.length).1 (sliceBounds lo hi st l.length).2.1 (sliceBounds lo hi st l.length).2.2).filterMap (l[·]?)
noncomputable def pickS (s : Str) (lo hi st : Option Int) : Str :=
  if (st.getD 1 == 1 && (Builtin.Str.strSliceIndices lo hi (st.getD 1) s.length).length == s.length) = true then s
  else ⟨((Builtin.Str.strSliceIndices lo hi (st.getD 1) s.length).filterMap (s.cps[·]?)).toArray⟩
noncomputable def partOf (v : Option AV) : Option (Option Int) := match v with
  | Option.none => some Option.none
  | some v => onInt v fun i => some (some i)
noncomputable def slicedV (ns : List Int) (a : AV) (lo hi st : Option Int) (H : AH) : Option (AV × AH) := match a with
  | .scr => alloc H (.list (pickL (ns.map .int) lo hi st))
  | .ref k => (listAt H k).bind fun l => if sizeOk l.length = true then alloc H (.list (pickL l lo hi st)) else Option.none
  | .str s => if sizeOk s.length = true then some (.str (pickS s lo hi st), H) else Option.none
  | .int _ => Option.none
  | .none => Option.none
  | .bool _ => Option.none
  | .flt _ => Option.none
noncomputable def getSlice (ns : List Int) (a : AV) (lo hi st : Option AV) (H : AH) : Option (AV × AH) :=
  (partOf lo).bind fun lo => (partOf hi).bind fun hi => (partOf st).bind fun st => if st ≠ some 0 then slicedV ns a lo hi st H else Option.none

noncomputable def total : List Int → Int
  | [] => 0
  | x :: r => x + total r
noncomputable def most : Int → List Int → Int
  | m, [] => m
  | m, x :: r => most (if m < x then x else m) r
/-- the built-in functions that are called by their names -/
noncomputable def lenO (H : AH) (o : Option AO) : Option (AV × AH) := match o with
  | some (.list l) => if sizeOk l.length = true then some (.int l.length, H) else Option.none
  | some (.tup l) => if sizeOk l.length = true then some (.int l.length, H) else Option.none
  | some (.dict _) => Option.none
  | some (.inst _) => Option.none
  | some (.attrs _) => Option.none
  | Option.none => Option.none
noncomputable def lenB (H : AH) (v : AV) : Option (AV × AH) := match v with
  | .ref k => lenO H H[k]?
  | .str s => if sizeOk s.length = true then some (.int s.length, H) else Option.none
  | .int _ => Option.none
  | .none => Option.none
  | .bool _ => Option.none
  | .flt _ => Option.none
  | .scr => Option.none
noncomputable def mostL (l : List Int) : Option Int := match l with
  | [] => Option.none
  | x :: r => some (most x r)
noncomputable def truncV (x : UInt64) : Option Int := match Float64.decode x with
  | .fin sg m e => some (Float64.truncOf sg m e)
  | _ => Option.none
noncomputable def builtin (f : Str) (as : List AV) (H : AH) : Option (AV × AH) :=
  if f = "len" then onOne as (lenB H)
  else if f = "max" then (match as with
    | [a] => onRef a fun k => ((listAt H k).bind ints?).bind fun l => (mostL l).map fun m => (.int m, H)
    | a :: b :: r => if r.isEmpty = true then (onInt a fun x => onInt b fun y => some (.int (if x < y then y else x), H)) else Option.none
    | [] => Option.none)
  else if f = "min" then onTwo as fun a b => onInt a fun x => onInt b fun y => some (.int (if y < x then y else x), H)
  else if f = "int" then onOne as fun a => onFlt a fun x => (truncV x).map fun i => (.int i, H)
  else if f = "sum" then onOne as fun a => onRef a fun k => ((listAt H k).bind ints?).map fun l => (.int (total l), H)
  else if f = "tuple" then onOne as fun a => onRef a fun k => (listAt H k).bind fun l => if sizeOk l.length = true then alloc H (.tup l) else Option.none
  else Option.none

noncomputable def isBuiltin (f : Str) : Bool := ["len", "max", "min", "int", "sum", "tuple"].any fun g => decide (f = Str.ofString g)
noncomputable def joinS : List Str → Str
  | [] => ⟨#[]⟩
  | x :: r => x ++ joinS r
noncomputable def sumLen : List Str → Nat
  | [] => 0
  | x :: r => x.length + sumLen r

structure Evs where
  e : Expr → Names → AL → AH → Option (AV × AH)
  x : List Stmt → Names → AL → AH → Option (AF × AL × AH)
  call : Str → List AV → AH → Option (AV × AH)
  meth : Str → List AV → AH → Option (AV × AH)
  /-- may loops go over the generator -/
  gen : Bool

/-- the defs of the text's top, and the class's own -/
noncomputable def paramsOf (a : Arguments) : List Str := a.args.map (·.arg)
noncomputable def defOf (f : Str) : List Stmt → Option (List Str × List Stmt × Names)
  | [] => Option.none
  | .FunctionDef n a b _ _ _ sc _ _ _ :: r => if n = f then (if sc.isGenerator then Option.none else some (paramsOf a, b, sc.names)) else defOf f r
  | _ :: r => defOf f r
noncomputable def classBody : List Stmt → List Stmt
  | [] => []
  | .ClassDef _ _ _ b _ _ _ _ _ _ _ :: _ => b
  | _ :: r => classBody r
noncomputable def topBody : List Stmt := Challenge.pw_rl0083_01.main.body
noncomputable def bindAll : List Str → List AV → AL
  | p :: ps, v :: vs => put (bindAll ps vs) p v
  | _, _ => fun _ => Option.none

noncomputable def evs (E : Evs) (N : Names) (l : AL) : List Expr → AH → Option (List AV × AH)
  | [], H => some ([], H)
  | a :: r, H => obind (E.e a N l H) fun v H₁ => obind (evs E N l r H₁) fun vs H₂ => some (v :: vs, H₂)

/-- kinds of expressions, by their numbers -/
noncomputable def plainE (e : Expr) : Bool := e.ctorIdx != 22
noncomputable def baseE (e : Expr) : Bool := e.ctorIdx == 23 || e.ctorIdx == 19
/-- arguments without stars, few of them -/
noncomputable def plainArgs (as : List Expr) : Bool := as.all plainE && decide (as.length < 20)

/-- the units of a text with escapes, each at its last sign's place -/
noncomputable def unitsFrom : Nat → Bool → List Nat → List (List AV)
  | _, false, [] => []
  | p, true, [] => [[.int ((p : Int) - 1), .str ⟨#[92]⟩]]
  | p, true, c :: r => [.int p, .str ⟨#[92, c]⟩] :: unitsFrom (p + 1) false r
  | p, false, c :: r => if c = 92 then unitsFrom (p + 1) true r else [.int p, .str ⟨#[c]⟩] :: unitsFrom (p + 1) false r

noncomputable def rangeL (a b : Int) : List (List AV) := (List.range (b - a).toNat).map fun (i : Nat) => [AV.int (a + i)]
noncomputable def zipL : List AV → List AV → List (List AV)
  | a :: r, b :: q => [a, b] :: zipL r q
  | _, _ => []

noncomputable def noSet (e : Expr) : Bool := e.ctorIdx != 7
noncomputable def soleTarget (e : Expr) : Bool := e.ctorIdx == 23
noncomputable def isPairTarget (e : Expr) : Bool := e.ctorIdx == 25
noncomputable def isCallE (e : Expr) : Bool := e.ctorIdx == 16
/-- what a loop goes over: the items (each the list of its parts), what must stay, the heap -/
noncomputable def itemsOf (v : AV) (H : AH) : Option (List (List AV) × (AH → Bool) × AH) := match v with
  | .str s => some (s.cps.toList.map fun c => [AV.str ⟨#[c]⟩], fun _ => true, H)
  | .ref k => (match H[k]? with
      | some (.list x) => some (x.map fun v => [v], fun h => decide (h[k]? = some (.list x)), H)
      | some (.dict x) => some (x.map fun p => [AV.int p.1], fun h => decide (h[k]? = some (.dict x)), H)
      | some (.tup _) => Option.none
      | some (.inst _) => Option.none
      | some (.attrs _) => Option.none
      | Option.none => Option.none)
  | .int _ => Option.none
  | .none => Option.none
  | .bool _ => Option.none
  | .flt _ => Option.none
  | .scr => Option.none
noncomputable def rangeV (vs : List AV) (H : AH) : Option (List (List AV) × (AH → Bool) × AH) := match vs with
  | [a] => onInt a fun b => if small b = true then some (rangeL 0 b, fun _ => true, H) else Option.none
  | a :: b :: r => if r.isEmpty = true then (onInt a fun i => onInt b fun j => if (small i && small j) = true then some (rangeL i j, fun _ => true, H) else Option.none) else Option.none
  | [] => Option.none
noncomputable def zipV (vs : List AV) (H : AH) : Option (List (List AV) × (AH → Bool) × AH) := onTwo vs fun a b => onRef a fun j => onRef b fun k => (listAt H j).bind fun x => (listAt H k).bind fun y =>
  some (zipL x y, fun h => decide (h[j]? = some (.list x)) && decide (h[k]? = some (.list y)), H)
noncomputable def unitsV (vs : List AV) (H : AH) : Option (List (List AV) × (AH → Bool) × AH) := onOne vs fun a => onStr a fun s => some (unitsFrom 0 false s.cps.toList, fun _ => true, H)
noncomputable def callItems (E : Evs) (N : Names) (l : AL) (H : AH) (tg : Expr) (f : Str) (es : List Expr) : Option (List (List AV) × (AH → Bool) × AH) :=
  if (isGlob N f && plainArgs es) = true then obind (evs E N l es H) fun vs H' =>
    if (decide (f = "range") && soleTarget tg) = true then rangeV vs H'
    else if (decide (f = "zip") && isPairTarget tg) = true then zipV vs H'
    else if (decide (f = "_iter_escaped_chars") && isPairTarget tg && E.gen) = true then unitsV vs H'
    else Option.none
  else Option.none
noncomputable def nameOf (e : Expr) : Option Str := match e with
  | .Name x _ => some x
  | _ => Option.none
noncomputable def callOf (e : Expr) : Option (Expr × List Expr × List Keyword) := match e with
  | .Call g es ks _ => some (g, es, ks)
  | _ => Option.none
/-- a call by a name: the name and the arguments -/
noncomputable def nameCall (e : Expr) : Option (Str × List Expr) := (callOf e).bind fun q => if q.2.2 = [] then (nameOf q.1).map fun f => (f, q.2.1) else Option.none
noncomputable def items (E : Evs) (N : Names) (l : AL) (H : AH) (tg it : Expr) : Option (List (List AV) × (AH → Bool) × AH) := match nameCall it with
  | some (f, es) => callItems E N l H tg f es
  | Option.none => if (noSet it && soleTarget tg) = true then obind (E.e it N l H) itemsOf else Option.none

/-- a loop's target takes an item's parts -/
noncomputable def bindS (ok : Str → Bool) (tg : Expr) (vs : List AV) (l : AL) : Option AL := match tg with
  | .Name x _ => onOne vs fun v => if ok x = true then some (put l x v) else Option.none
  | .Tuple ts _ _ => onTwo ts fun s t => (nameOf s).bind fun x => (nameOf t).bind fun y => onTwo vs fun v u => if (ok x && ok y) = true then some (put (put l x v) y u) else Option.none
  | _ => Option.none
noncomputable def bindT (N : Names) (tg : Expr) (vs : List AV) (l : AL) : Option AL := bindS (isVar N) tg vs l

/-- the same, in a comprehension: its own names alone -/
noncomputable def bindK (N : Names) (tg : Expr) (vs : List AV) (l : AL) : Option AL := bindS (fun x => decide (N.lookup x = some .local)) tg vs l

noncomputable def forIt (bind : List AV → AL → Option AL) (body : AL → AH → Option (AF × AL × AH)) (g : AH → Bool) : List (List AV) → AL → AH → Option (AF × AL × AH)
  | [], l, H => if g H = true then some (.next, l, H) else Option.none
  | v :: vs, l, H => if g H = true then (bind v l).bind fun l₁ => (match body l₁ H with
      | some (.next, l', H') => forIt bind body g vs l' H'
      | some (.brk, l', H') => some (.next, l', H')
      | some (.ret x, l', H') => some (.ret x, l', H')
      | Option.none => Option.none) else Option.none

noncomputable def plainTest (e : Expr) : Bool := !([0, 3, 5, 15].contains e.ctorIdx)
noncomputable def boolV (v : AV) (H : AH) : Option (Bool × AH) := onBool v fun b => some (b, H)
noncomputable def cmpV (op : CmpOp) (u v : AV) (H : AH) : Option (Bool × AH) := (cmpop op u v H).map (·, H)
noncomputable def testCmp (E : Evs) (N : Names) (l : AL) (a : Expr) (ops : List CmpOp) (cs : List Expr) (H : AH) : Option (Bool × AH) := match ops with
  | [op] => onOne cs fun b => if noSet b = true then obind (E.e a N l H) fun u H₁ => obind (E.e b N l H₁) fun v H₂ => cmpV op u v H₂ else Option.none
  | op :: op' :: r => if r.isEmpty = true then (onTwo cs fun b c => if noSet c = true then obind (E.e a N l H) fun u H₁ => obind (E.e b N l H₁) fun v H₂ => obind (cmpV op u v H₂) fun q H₃ =>
      if q = true then obind (E.e c N l H₃) fun z H₄ => cmpV op' v z H₄ else some (false, H₃) else Option.none) else Option.none
  | [] => Option.none
/-- a comparison's parts -/
noncomputable def cmpParts (e : Expr) : Option (Expr × List CmpOp × List Expr) := match e with
  | .Compare a ops cs _ => some (a, ops, cs)
  | _ => Option.none
noncomputable def test (E : Evs) (N : Names) (l : AL) (e : Expr) (H : AH) : Option (Bool × AH) := match cmpParts e with
  | some (a, ops, cs) => testCmp E N l a ops cs H
  | Option.none => if plainTest e = true then obind (E.e e N l H) boolV else Option.none
noncomputable def condOr (E : Evs) (N : Names) (l : AL) (es : List Expr) (H : AH) : Option (Bool × AH) := match es with
  | [a, b] => obind (test E N l a H) fun q H₁ => if q = true then some (true, H₁) else test E N l b H₁
  | a :: b :: c :: r => if r.isEmpty = true then (obind (test E N l a H) fun q H₁ => if q = true then some (true, H₁) else obind (test E N l b H₁) fun q H₂ => if q = true then some (true, H₂) else test E N l c H₂) else Option.none
  | [_] => Option.none
  | [] => Option.none
/-- the parts of a row of or's -/
noncomputable def orParts (e : Expr) : Option (List Expr) := match e with
  | .BoolOp op es _ => if op = .Or then some es else Option.none
  | _ => Option.none
noncomputable def cond (E : Evs) (N : Names) (l : AL) (e : Expr) (H : AH) : Option (Bool × AH) := match orParts e with
  | some es => condOr E N l es H
  | Option.none => if [0, 3, 5].contains e.ctorIdx = true then Option.none else test E N l e H

/-- a comprehension's turns; D is the list that grows -/
noncomputable def compIt (bind : List AV → AL → Option AL) (ok : AL → AH → Option (Bool × AH)) (elt : AL → AH → Option (AV × AH)) (g : AH → Bool) (D : Nat) : List (List AV) → AL → AH → Option AH
  | [], _, H => if g H = true then some H else Option.none
  | v :: vs, l, H => if g H = true then (bind v l).bind fun l₁ => obind (ok l₁ H) fun q H₁ =>
      if q = true then obind (elt l₁ H₁) fun x H₂ => (listAt H₂ D).bind fun y => if sizeOk (y.length + 1) = true then compIt bind ok elt g D vs l₁ (H₂.set D (.list (y ++ [x]))) else Option.none
      else compIt bind ok elt g D vs l₁ H₁ else Option.none
noncomputable def compNames (N : Names) : Names := N.map fun p => if p.2 = NameKind.free then (p.1, NameKind.cell) else p
/-- the names of a comprehension: its free ones as they are outside, its own unbound -/
noncomputable def compLocals (N : Names) (l : AL) : AL := fun y => if N.lookup y = some .free then l y else Option.none
/-- a comprehension's own table of names, beside the one around it -/
noncomputable def compOk (N : Names) (sc : Scope) : Bool := sc.kind == .function && sc.names.all fun p => p.2 != .cell && (p.2 != .free || N.lookup p.1 == some .cell) && (p.2 != .local || sc.names.lookup p.1 == some .local)
noncomputable def tests (E : Evs) (N : Names) (l : AL) (cs : List Expr) (H : AH) : Option (Bool × AH) := match cs with
  | [] => some (true, H)
  | c :: r => if r.isEmpty = true then test E N l c H else Option.none

noncomputable def attrOf (a : AV) (f : Str) (H : AH) : Option AV := onRef a fun k => (instAt H k).bind fun d => (attrsAt H d).bind fun l => l.lookup f
noncomputable def setAttr (f : Str) (v : AV) : List (Str × AV) → List (Str × AV)
  | [] => [(f, v)]
  | p :: r => if p.1 = f then (f, v) :: r else p :: setAttr f v r
noncomputable def putD (k v : Int) : List (Int × Int) → List (Int × Int)
  | [] => [(k, v)]
  | p :: r => if p.1 = k then (k, v) :: r else p :: putD k v r

noncomputable def slicePart (E : Evs) (N : Names) (l : AL) (e : Option Expr) (H : AH) : Option (Option AV × AH) := match e with
  | Option.none => some (Option.none, H)
  | some e => obind (E.e e N l H) fun v H' => some (some v, H')

noncomputable def methodO (E : Evs) (k : Nat) (f : Str) (as : List AV) (H : AH) (o : Option AO) : Option (AV × AH) := match o with
  | some (.list l) => if f = "append" then (onOne as fun v => if sizeOk (l.length + 1) = true then some (.none, H.set k (.list (l ++ [v]))) else Option.none) else Option.none
  | some (.dict l) => if f = "get" then (onTwo as fun a b => onInt a fun i => onInt b fun d => some (.int ((l.lookup i).getD d), H)) else Option.none
  | some (.inst _) => E.meth f (.ref k :: as) H
  | some (.tup _) => Option.none
  | some (.attrs _) => Option.none
  | Option.none => Option.none
noncomputable def method (E : Evs) (o : AV) (f : Str) (as : List AV) (H : AH) : Option (AV × AH) := match o with
  | .str sep => if f = "join" ∧ sep.length = 0 then onOne as fun a => onRef a fun k => ((listAt H k).bind strs?).bind fun xs => if sizeOk (sumLen xs) = true then some (.str (joinS xs), H) else Option.none else Option.none
  | .ref k => methodO E k f as H H[k]?
  | .int _ => Option.none
  | .none => Option.none
  | .bool _ => Option.none
  | .flt _ => Option.none
  | .scr => Option.none

/-- no comprehension -/
noncomputable def noComp (e : Expr) : Bool := e.ctorIdx != 8 && e.ctorIdx != 9 && e.ctorIdx != 10
noncomputable def isField (f : Str) : Bool := ["raw", "n", "nt", "norm", "is_simple"].any fun g => decide (f = Str.ofString g)
/-- a comprehension -/
noncomputable def evComp (E : Evs) (N : Names) (l : AL) (H : AH) (elt tg it : Expr) (ifs : List Expr) (sc : Scope) : Option (AV × AH) := if compOk N sc = true then (match items E N l H tg it with
  | some (vs, g, H₁) => (compIt (bindK sc.names tg) (fun l H => tests E (compNames sc.names) l ifs H) (fun l H => E.e elt (compNames sc.names) l H) g H₁.length vs (compLocals sc.names l) (H₁ ++ [.list []])).map fun H₂ => (.ref H₁.length, H₂)
  | Option.none => Option.none) else Option.none
noncomputable def isAttrs (H : AH) (d : Nat) : Bool := match H[d]? with
  | some (.attrs _) => true
  | _ => false
/-- the thing is of one kind before and behind -/
noncomputable def isListO (o : Option AO) : Bool := match o with
  | some (.list _) => true
  | _ => false
noncomputable def isDictO (o : Option AO) : Bool := match o with
  | some (.dict _) => true
  | _ => false
noncomputable def isInstO (d : Nat) (o : Option AO) : Bool := match o with
  | some (.inst d') => d == d'
  | _ => false
noncomputable def sameO (H : AH) (o o' : Option AO) : Bool := match o with
  | some (.list _) => isListO o'
  | some (.dict _) => isDictO o'
  | some (.inst d) => isInstO d o' && isAttrs H d
  | some (.tup _) => false
  | some (.attrs _) => false
  | Option.none => false
noncomputable def sameKind (v : AV) (H H' : AH) : Bool := match v with
  | .ref k => sameO H H[k]? H'[k]?
  | .int _ => true
  | .none => true
  | .bool _ => true
  | .flt _ => true
  | .str _ => true
  | .scr => true
noncomputable def evConst (c : Const) (H : AH) : Option (AV × AH) := match c with
  | .none => some (.none, H)
  | .bool b => some (.bool b, H)
  | .int i => some (.int i, H)
  | .float x => some (.flt x, H)
  | .str s => some (.str s, H)
  | .complex _ _ => Option.none
  | .bytes _ => Option.none
  | .ellipsis => Option.none
noncomputable def evAttr (N : Names) (l : AL) (c f : Str) (H : AH) : Option (AV × AH) :=
  if (isVar N c && isField f) = true then (l c).bind fun v => (attrOf v f H).map (·, H)
  else if isGlob N c = true ∧ c = "Whitespace" then
    (if f = "S" then some (.str " ", H) else if f = "T" then some (.str "\t", H) else Option.none)
  else Option.none
/-- a slice's parts -/
noncomputable def sliceParts (e : Expr) : Option (Option Expr × Option Expr × Option Expr) := match e with
  | .Slice lo hi st _ => some (lo, hi, st)
  | _ => Option.none
noncomputable def evSub (ns : List Int) (E : Evs) (N : Names) (l : AL) (c : Expr) (u : AV) (H₁ : AH) : Option (AV × AH) := match sliceParts c with
  | some (lo, hi, st) => obind (slicePart E N l lo H₁) fun x H₂ => obind (slicePart E N l hi H₂) fun y H₃ => obind (slicePart E N l st H₃) fun z H₄ => getSlice ns u x y z H₄
  | Option.none => obind (E.e c N l H₁) fun v H₂ => getItem u v H₂
noncomputable def callF (E : Evs) (f : Str) (vs : List AV) (H₁ : AH) : Option (AV × AH) :=
  if f = "Whitespace" then onOne vs fun v => obind (E.meth "__init__" [.ref (H₁.length + 1), v] (H₁ ++ [.attrs [], .inst H₁.length])) fun r H₂ => if isNone r = true then some (.ref (H₁.length + 1), H₂) else Option.none
  else if isBuiltin f = true then builtin f vs H₁ else E.call f vs H₁
noncomputable def evCall (E : Evs) (N : Names) (l : AL) (g : Expr) (es : List Expr) (p : Pos) (H : AH) : Option (AV × AH) := match g with
  | .Attribute o f ap => if (baseE o && plainArgs es && ap.endLine == p.line) = true then obind (E.e o N l H) fun v H₁ => obind (evs E N l es H₁) fun vs H₂ => if sameKind v H₁ H₂ = true then method E v f vs H₂ else Option.none else Option.none
  | .Name f _ => if (isGlob N f && plainArgs es) = true then obind (evs E N l es H) fun vs H₁ => callF E f vs H₁ else Option.none
  | _ => Option.none
noncomputable def evE (ns : List Int) (E : Evs) (e : Expr) (N : Names) (l : AL) (H : AH) : Option (AV × AH) := match e with
  | .Constant c _ _ => evConst c H
  | .Name x _ => if isVar N x = true then (l x).map (·, H) else Option.none
  | .BinOp a op b _ => obind (E.e a N l H) fun u H₁ => obind (E.e b N l H₁) fun v H₂ => binop op u v H₂
  | .UnaryOp op a _ => if op = .USub then obind (E.e a N l H) fun v H₁ => onInt v fun i => some (.int (-i), H₁) else Option.none
  | .Compare a ops cs _ => onOne ops fun op => onOne cs fun b => if noSet b = true then obind (E.e a N l H) fun u H₁ => obind (E.e b N l H₁) fun v H₂ => (cmpop op u v H₂).map fun q => (.bool q, H₂) else Option.none
  | .IfExp t a b _ => obind (test E N l t H) fun q H₁ => if q = true then E.e a N l H₁ else E.e b N l H₁
  | .List es _ => if plainArgs es = true then obind (evs E N l es H) fun vs H₁ => alloc H₁ (.list vs) else Option.none
  | .Tuple es _ _ => if plainArgs es = true then obind (evs E N l es H) fun vs H₁ => alloc H₁ (.tup vs) else Option.none
  | .Dict ks vs _ => if ks = [] ∧ vs = [] then alloc H (.dict []) else Option.none
  | .Attribute o f _ => (nameOf o).bind fun c => evAttr N l c f H
  | .Subscript a c _ => obind (E.e a N l H) (evSub ns E N l c)
  | .Call g es ks p => if ks = [] then evCall E N l g es p H else Option.none
  | .ListComp elt gs sc _ => onOne gs fun g => if g.is_async = 0 then evComp E N l H elt g.target g.iter g.ifs sc else Option.none
  | .BoolOp _ _ _ => Option.none
  | .NamedExpr _ _ _ => Option.none
  | .Lambda _ _ _ _ => Option.none
  | .Set _ _ _ => Option.none
  | .SetComp _ _ _ _ => Option.none
  | .DictComp _ _ _ _ _ => Option.none
  | .GeneratorExp _ _ _ _ => Option.none
  | .Await _ _ => Option.none
  | .Yield _ _ => Option.none
  | .YieldFrom _ _ => Option.none
  | .FormattedValue _ _ _ _ => Option.none
  | .JoinedStr _ _ => Option.none
  | .Starred _ _ => Option.none
  | .Slice _ _ _ _ => Option.none

noncomputable def okTarget (e : Expr) : Bool := [20, 21, 23, 25].contains e.ctorIdx
/-- stores in their written order -/
noncomputable def storesOk (ts : List Expr) (e : Expr) : Bool := noComp e && ts.all okTarget && !(isPairTarget e && ts.any isPairTarget)
/-- one target takes a value -/
noncomputable def assignT (N : Names) (ts : List Expr) (xs : List AV) (l : AL) : Option AL := match xs with
  | [a, b] => onTwo ts fun s t => (nameOf s).bind fun x => (nameOf t).bind fun y => if (isVar N x && isVar N y) = true then some (put (put l x a) y b) else Option.none
  | a :: b :: c :: r => if r = [] then (match ts with
    | [s, t, u] => (nameOf s).bind fun x => (nameOf t).bind fun y => (nameOf u).bind fun z => if (isVar N x && isVar N y && isVar N z) = true then some (put (put (put l x a) y b) z c) else Option.none
    | _ => Option.none) else Option.none
  | [_] => Option.none
  | [] => Option.none
noncomputable def assignA (c f : Str) (v : AV) (l : AL) (H : AH) : Option (AL × AH) := (l c).bind fun o => onRef o fun k => (instAt H k).bind fun d => (attrsAt H d).bind fun fs => if fs.length < 100 then some (l, H.set d (.attrs (setAttr f v fs))) else Option.none
noncomputable def assignI (k : Nat) (j : Int) (v : AV) (l : AL) (H₁ : AH) : Option (AL × AH) := match H₁[k]? with
  | some (.list x) => if (decide (0 ≤ j) && decide (j.toNat < x.length) && small j) = true then some (l, H₁.set k (.list (x.set j.toNat v))) else Option.none
  | some (.dict x) => onInt v fun y => if sizeOk (x.length + 1) = true then some (l, H₁.set k (.dict (putD j y x))) else Option.none
  | some (.tup _) => Option.none
  | some (.inst _) => Option.none
  | some (.attrs _) => Option.none
  | Option.none => Option.none
noncomputable def assign1 (E : Evs) (N : Names) (t : Expr) (v : AV) (l : AL) (H : AH) : Option (AL × AH) := match t with
  | .Name x _ => if isVar N x = true then some (put l x v, H) else Option.none
  | .Tuple ts _ _ => onRef v fun k => (tupAt H k).bind fun xs => (assignT N ts xs l).map (·, H)
  | .Attribute o f _ => (nameOf o).bind fun c => if (isVar N c && isField f) = true then assignA c f v l H else Option.none
  | .Subscript o i _ => (nameOf o).bind fun c => if isVar N c = true then (l c).bind fun w => onRef w fun k => obind (E.e i N l H) fun u H₁ => onInt u fun j => assignI k j v l H₁ else Option.none
  | _ => Option.none
noncomputable def assignN (E : Evs) (N : Names) (v : AV) : List Expr → AL → AH → Option (AL × AH)
  | [], l, H => some (l, H)
  | t :: r, l, H => obind (assign1 E N t v l H) fun l' H' => assignN E N v r l' H'

noncomputable def asgn (o : Option (AL × AH)) : Option (AF × AL × AH) := obind o fun l' H' => some (.next, l', H')
noncomputable def compOf (e : Expr) : Option (Expr × Comprehension × Scope) := match e with
  | .ListComp elt gs sc _ => onOne gs fun g => if g.is_async = 0 then some (elt, g, sc) else Option.none
  | _ => Option.none
/-- a name that takes a comprehension -/
noncomputable def ncompParts (ts : List Expr) (e : Expr) : Option (Str × Expr × Comprehension × Scope) := onOne ts fun t => (nameOf t).bind fun x => (compOf e).map fun q => (x, q)
noncomputable def tupOf (e : Expr) : Option (List Expr) := match e with
  | .Tuple ts _ _ => some ts
  | _ => Option.none
noncomputable def lineOf (e : Expr) : Nat := e.pos.line
noncomputable def isAttr (e : Expr) : Bool := e.ctorIdx == 20
/-- two names that take two attributes -/
noncomputable def swapParts (ts : List Expr) (e : Expr) : Option (Str × Str × Bool) := onOne ts fun t => (tupOf t).bind fun us => onTwo us fun s s' => (nameOf s).bind fun x => (nameOf s').bind fun y =>
  (tupOf e).bind fun vs => onTwo vs fun a b => if (isAttr a && isAttr b) = true then some (x, y, decide (lineOf s' = lineOf s)) else Option.none
noncomputable def swapV (x y : Str) (l : AL) (v : AV) (H₁ : AH) : Option (AF × AL × AH) := onRef v fun k => (tupAt H₁ k).bind fun xs => onTwo xs fun a b => some (.next, put (put l y b) x a, H₁)
noncomputable def exAsgn (E : Evs) (ts : List Expr) (e : Expr) (N : Names) (l : AL) (H : AH) : Option (AF × AL × AH) := match ncompParts ts e with
  | some (x, elt, g, sc) => if isVar N x = true then obind (evComp E N l H elt g.target g.iter g.ifs sc) fun v H₁ => some (.next, put l x v, H₁) else Option.none
  | Option.none => (match swapParts ts e with
    | some (x, y, q) => if N.lookup x = some .local ∧ N.lookup y = some .local ∧ y ≠ x ∧ q = true ∧ isVar N x = true ∧ isVar N y = true then obind (E.e e N l H) (swapV x y l) else Option.none
    | Option.none => if storesOk ts e = true then obind (E.e e N l H) fun v H₁ => asgn (assignN E N v ts l H₁) else Option.none)
noncomputable def augV (op : Operator) (x : Str) (a b : Int) (l : AL) (H₁ : AH) : Option (AF × AL × AH) := if op = .Add then some (.next, put l x (.int (a + b)), H₁) else if op = .Sub then some (.next, put l x (.int (a - b)), H₁) else Option.none
noncomputable def exS (E : Evs) (st : Stmt) (N : Names) (l : AL) (H : AH) : Option (AF × AL × AH) := match st with
  | .Expr e _ => if noComp e = true then obind (E.e e N l H) fun _ H₁ => some (.next, l, H₁) else Option.none
  | .Break _ => some (.brk, l, H)
  | .Return o _ => o.bind fun e => obind (E.e e N l H) fun v H₁ => some (.ret v, l, H₁)
  | .Assign ts e _ => exAsgn E ts e N l H
  | .AugAssign t op e _ => (nameOf t).bind fun x => if isVar N x = true then (l x).bind fun w => onInt w fun a => obind (E.e e N l H) fun v H₁ => onInt v fun b => augV op x a b l H₁ else Option.none
  | .If t a b _ => obind (cond E N l t H) fun q H₁ => if q = true then E.x a N l H₁ else E.x b N l H₁
  | .For tg it body els _ => if els.isEmpty = true then (match items E N l H tg it with
    | some (vs, g, H₁) => forIt (bindT N tg) (fun l H => E.x body N l H) g vs l H₁
    | Option.none => Option.none) else Option.none
  | .FunctionDef .. => Option.none
  | .AsyncFunctionDef .. => Option.none
  | .ClassDef .. => Option.none
  | .Delete .. => Option.none
  | .TypeAlias .. => Option.none
  | .AnnAssign .. => Option.none
  | .AsyncFor .. => Option.none
  | .While .. => Option.none
  | .With .. => Option.none
  | .AsyncWith .. => Option.none
  | .Match .. => Option.none
  | .Raise .. => Option.none
  | .Try .. => Option.none
  | .TryStar .. => Option.none
  | .Assert .. => Option.none
  | .Import .. => Option.none
  | .ImportFrom .. => Option.none
  | .Global .. => Option.none
  | .Nonlocal .. => Option.none
  | .Pass .. => Option.none
  | .Continue .. => Option.none
noncomputable def exL (E : Evs) (N : Names) : List Stmt → AL → AH → Option (AF × AL × AH)
  | [], l, H => some (.next, l, H)
  | s :: r, l, H => match exS E s N l H with
    | some (.next, l', H') => exL E N r l' H'
    | some (f, l', H') => some (f, l', H')
    | Option.none => Option.none

noncomputable def callBy (E : Evs) (body : List Stmt) (f : Str) (as : List AV) (H : AH) : Option (AV × AH) := match defOf f body with
  | some (ps, b, N) => if ps.length = as.length ∧ ps.Nodup ∧ ps.all (isVar N) = true then (match E.x b N (bindAll ps as) H with
    | some (.ret v, _, H') => some (v, H')
    | some (.next, _, H') => some (.none, H')
    | _ => Option.none) else Option.none
  | Option.none => Option.none

noncomputable def bot (b : Bool) : Evs := ⟨fun _ _ _ _ => Option.none, fun _ _ _ _ => Option.none, fun _ _ _ => Option.none, fun _ _ _ => Option.none, b⟩
noncomputable def isDef (f : Str) : Bool := ["hsv_to_rgb", "_strip_quoted_realnames", "_check_parenthesis", "_law_numbers", "_law_pieces", "_law_rows", "_law_cells", "_law_paint", "_law_due", "_law_many", "_law_spans", "_law_astray"].any fun g => decide (f = Str.ofString g)
noncomputable def isMeth (f : Str) : Bool := ["__init__", "longest_run_of_spaces", "indent_level", "not_equal_witness"].any fun g => decide (f = Str.ofString g)
noncomputable def next (ns : List Int) (E : Evs) : Evs where
  e := evE ns E
  x := fun b N l H => exL E N b l H
  call := fun f as H => if isDef f then callBy E topBody f as H else Option.none
  meth := fun f as H => if isMeth f then callBy E (classBody topBody) f as H else Option.none
  gen := E.gen
noncomputable def ev (b : Bool) (ns : List Int) : Nat → Evs
  | 0 => bot false
  | n + 1 => { next ns (ev b ns n) with gen := b && decide (5 ≤ n + 1) }
/-- the generator's body and names -/
noncomputable def genOf : List Stmt → Option (List Stmt × Names)
  | [] => Option.none
  | .FunctionDef n _ b _ _ _ sc _ _ _ :: r => if n = "_iter_escaped_chars" then some (b, sc.names) else genOf r
  | _ :: r => genOf r
/-! What a result tells of the way to it. -/
theorem nn {β : Type} {P : Prop} {r : β} (h : (none : Option β) = some r) : P := by cases h
theorem ff {P : Prop} (h : false = true) : P := by cases h
theorem obind_inv {α β : Type} {o : Option (α × AH)} {f : α → AH → Option β} {r : β} (h : obind o f = some r) : ∃ v H, o = some (v, H) ∧ f v H = some r := by
  cases o with
  | none => exact nn h
  | some p => exact ⟨p.1, p.2, rfl, h⟩
theorem bind_inv {α β : Type} {o : Option α} {f : α → Option β} {r : β} (h : o.bind f = some r) : ∃ v, o = some v ∧ f v = some r := by
  cases o with
  | none => exact nn h
  | some p => exact ⟨p, rfl, h⟩
theorem map_inv {α β : Type} {o : Option α} {f : α → β} {r : β} (h : o.map f = some r) : ∃ v, o = some v ∧ f v = r := by
  cases o with
  | none => exact nn h
  | some p => cases h; exact ⟨p, rfl, rfl⟩
theorem if_inv {β : Type} {c : Prop} [Decidable c] {x : Option β} {r : β} (h : (if c then x else none) = some r) : c ∧ x = some r := by
  by_cases q : c
  · rw [if_pos q] at h; exact ⟨q, h⟩
  · rw [if_neg q] at h; cases h
theorem onInt_inv {β : Type} {v : AV} {f : Int → Option β} {r : β} (h : onInt v f = some r) : ∃ i, v = .int i ∧ f i = some r := by
  cases v with
  | int i => exact ⟨i, rfl, h⟩
  | _ => exact nn h
theorem onFlt_inv {β : Type} {v : AV} {f : UInt64 → Option β} {r : β} (h : onFlt v f = some r) : ∃ i, v = .flt i ∧ f i = some r := by
  cases v with
  | flt i => exact ⟨i, rfl, h⟩
  | _ => exact nn h
theorem onStr_inv {β : Type} {v : AV} {f : Str → Option β} {r : β} (h : onStr v f = some r) : ∃ i, v = .str i ∧ f i = some r := by
  cases v with
  | str i => exact ⟨i, rfl, h⟩
  | _ => exact nn h
theorem onRef_inv {β : Type} {v : AV} {f : Nat → Option β} {r : β} (h : onRef v f = some r) : ∃ i, v = .ref i ∧ f i = some r := by
  cases v with
  | ref i => exact ⟨i, rfl, h⟩
  | _ => exact nn h
theorem onBool_inv {β : Type} {v : AV} {f : Bool → Option β} {r : β} (h : onBool v f = some r) : ∃ i, v = .bool i ∧ f i = some r := by
  cases v with
  | bool i => exact ⟨i, rfl, h⟩
  | _ => exact nn h
theorem onOne_inv {α β : Type} {l : List α} {f : α → Option β} {r : β} (h : onOne l f = some r) : ∃ i, l = [i] ∧ f i = some r := by
  cases l with
  | nil => exact nn h
  | cons a q => cases q with
    | nil => exact ⟨a, rfl, h⟩
    | cons _ _ => exact nn h
theorem onTwo_inv {α β : Type} {l : List α} {f : α → α → Option β} {r : β} (h : onTwo l f = some r) : ∃ i j, l = [i, j] ∧ f i j = some r := by
  cases l with
  | nil => exact nn h
  | cons a q => cases q with
    | nil => exact nn h
    | cons b q => cases q with
      | nil => exact ⟨a, b, rfl, h⟩
      | cons _ _ => exact nn h
theorem isNone_of {v : AV} (h : isNone v = true) : v = .none := by cases v <;> first | rfl | cases h
theorem nil_of {α : Type} {l : List α} (h : l.isEmpty = true) : l = [] := by cases l <;> first | rfl | cases h
theorem nameOf_inv {e : Expr} {x : Str} : nameOf e = some x → ∃ p, e = .Name x p := by
  cases e with
  | Name y p => intro h; cases h; exact ⟨p, rfl⟩
  | _ => exact nn
theorem sole_inv {e : Expr} : soleTarget e = true → ∃ x p, e = .Name x p := by
  cases e with
  | Name y p => exact fun _ => ⟨y, p, rfl⟩
  | _ => exact ff
theorem pair_inv {e : Expr} : isPairTarget e = true → ∃ x k p, e = .Tuple x k p := by
  cases e with
  | Tuple y k p => exact fun _ => ⟨y, k, p, rfl⟩
  | _ => exact ff
theorem callOf_inv {e g : Expr} {es : List Expr} {ks : List Keyword} : callOf e = some (g, es, ks) → ∃ p, e = .Call g es ks p := by
  cases e with
  | Call a b c p => intro h; cases h; exact ⟨p, rfl⟩
  | _ => exact nn
theorem nameCall_inv {e : Expr} {f : Str} {es : List Expr} (h : nameCall e = some (f, es)) : ∃ p q, e = .Call (.Name f p) es [] q := by
  obtain ⟨⟨g, es', ks⟩, h1, h⟩ := bind_inv h
  obtain ⟨h2, h⟩ := if_inv h
  obtain ⟨f', h3, h⟩ := map_inv h
  cases h
  obtain ⟨q, rfl⟩ := callOf_inv h1
  obtain ⟨p, rfl⟩ := nameOf_inv h3
  cases h2
  exact ⟨p, q, rfl⟩
theorem tupOf_inv {e : Expr} {ts : List Expr} : tupOf e = some ts → ∃ k p, e = .Tuple ts k p := by
  cases e with
  | Tuple a k p => intro h; cases h; exact ⟨k, p, rfl⟩
  | _ => exact nn
theorem attr_inv {e : Expr} : isAttr e = true → ∃ o f p, e = .Attribute o f p := by
  cases e with
  | Attribute o f p => exact fun _ => ⟨o, f, p, rfl⟩
  | _ => exact ff
theorem compOf_inv {e elt : Expr} {g : Comprehension} {sc : Scope} : compOf e = some (elt, g, sc) → ∃ p, e = .ListComp elt [⟨g.target, g.iter, g.ifs, 0⟩] sc p := by
  cases e with
  | ListComp a gs c p =>
    intro h
    obtain ⟨g', rfl, h⟩ := onOne_inv h
    obtain ⟨h0, h⟩ := if_inv h
    cases h
    obtain ⟨t, i, f, n⟩ := g
    cases h0
    exact ⟨p, rfl⟩
  | _ => exact nn
theorem cmpParts_inv {e a : Expr} {ops : List CmpOp} {cs : List Expr} : cmpParts e = some (a, ops, cs) → ∃ p, e = .Compare a ops cs p := by
  cases e with
  | Compare x y z p => intro h; cases h; exact ⟨p, rfl⟩
  | _ => exact nn
theorem orParts_inv {e : Expr} {es : List Expr} : orParts e = some es → ∃ p, e = .BoolOp .Or es p := by
  cases e with
  | BoolOp op x p => intro h; obtain ⟨rfl, h⟩ := if_inv h; cases h; exact ⟨p, rfl⟩
  | _ => exact nn
theorem sliceParts_inv {e : Expr} {lo hi st : Option Expr} : sliceParts e = some (lo, hi, st) → ∃ p, e = .Slice lo hi st p := by
  cases e with
  | Slice x y z p => intro h; cases h; exact ⟨p, rfl⟩
  | _ => exact nn
/-- a target took an item's parts -/
inductive BS (ok : Str → Bool) (l : AL) : Expr → List AV → AL → Prop where
  | one {x : Str} {p : Pos} {v : AV} : ok x = true → BS ok l (.Name x p) [v] (put l x v)
  | two {x y : Str} {px py q : Pos} {k : Nat} {v u : AV} : ok x = true → ok y = true → BS ok l (.Tuple [.Name x px, .Name y py] k q) [v, u] (put (put l x v) y u)
theorem bindS_inv {ok : Str → Bool} {tg : Expr} {vs : List AV} {l l₁ : AL} : bindS ok tg vs l = some l₁ → BS ok l tg vs l₁ := by
  cases tg with
  | Name x p =>
    intro h
    obtain ⟨v, rfl, h⟩ := onOne_inv h
    obtain ⟨h2, h⟩ := if_inv h
    cases h
    exact .one h2
  | Tuple ts k q =>
    intro h
    obtain ⟨s, t, rfl, h⟩ := onTwo_inv h
    obtain ⟨x, h1, h⟩ := bind_inv h
    obtain ⟨y, h2, h⟩ := bind_inv h
    obtain ⟨v, u, rfl, h⟩ := onTwo_inv h
    obtain ⟨h4, h⟩ := if_inv h
    cases h
    rw [Bool.and_eq_true] at h4
    obtain ⟨px, rfl⟩ := nameOf_inv h1
    obtain ⟨py, rfl⟩ := nameOf_inv h2
    exact .two h4.1 h4.2
  | _ => exact nn
theorem listAt_inv {H : AH} {k : Nat} {l : List AV} (h : listAt H k = some l) : H[k]? = some (.list l) := by
  unfold listAt at h
  cases q : H[k]? with
  | none => rw [q] at h; exact nn h
  | some o => rw [q] at h; cases o <;> first | (cases h; rfl) | exact nn h
theorem tupAt_inv {H : AH} {k : Nat} {l : List AV} (h : tupAt H k = some l) : H[k]? = some (.tup l) := by
  unfold tupAt at h
  cases q : H[k]? with
  | none => rw [q] at h; exact nn h
  | some o => rw [q] at h; cases o <;> first | (cases h; rfl) | exact nn h
theorem dictAt_inv {H : AH} {k : Nat} {l : List (Int × Int)} (h : dictAt H k = some l) : H[k]? = some (.dict l) := by
  unfold dictAt at h
  cases q : H[k]? with
  | none => rw [q] at h; exact nn h
  | some o => rw [q] at h; cases o <;> first | (cases h; rfl) | exact nn h
theorem instAt_inv {H : AH} {k d : Nat} (h : instAt H k = some d) : H[k]? = some (.inst d) := by
  unfold instAt at h
  cases q : H[k]? with
  | none => rw [q] at h; exact nn h
  | some o => rw [q] at h; cases o <;> first | (cases h; rfl) | exact nn h
theorem attrsAt_inv {H : AH} {k : Nat} {l : List (Str × AV)} (h : attrsAt H k = some l) : H[k]? = some (.attrs l) := by
  unfold attrsAt at h
  cases q : H[k]? with
  | none => rw [q] at h; exact nn h
  | some o => rw [q] at h; cases o <;> first | (cases h; rfl) | exact nn h

/-- the shape of two names that take two attributes -/
inductive SwapSh : List Expr → Expr → Str → Str → Bool → Prop where
  | mk {x y : Str} {xp yp : Pos} {k : Nat} {tp : Pos} {o : Expr} {f : Str} {ap : Pos} {o' : Expr} {f' : Str} {ap' : Pos} {k' : Nat} {ep : Pos} :
      SwapSh [.Tuple [.Name x xp, .Name y yp] k tp] (.Tuple [.Attribute o f ap, .Attribute o' f' ap'] k' ep) x y (decide (yp.line = xp.line))
theorem swapParts_inv {ts : List Expr} {e : Expr} {x y : Str} {q : Bool} (h : swapParts ts e = some (x, y, q)) : SwapSh ts e x y q := by
  obtain ⟨t, rfl, h1⟩ := onOne_inv h
  clear h
  obtain ⟨us, h2, h3⟩ := bind_inv h1
  obtain ⟨s, s', rfl, h4⟩ := onTwo_inv h3
  obtain ⟨x', h5, h6⟩ := bind_inv h4
  obtain ⟨y', h7, h8⟩ := bind_inv h6
  obtain ⟨vs, h9, h10⟩ := bind_inv h8
  obtain ⟨a, b, rfl, h11⟩ := onTwo_inv h10
  obtain ⟨h12, h13⟩ := if_inv h11
  clear h1 h3 h4 h6 h8 h10 h11
  cases h13
  rw [Bool.and_eq_true] at h12
  obtain ⟨k, tp, rfl⟩ := tupOf_inv h2
  obtain ⟨k', ep, rfl⟩ := tupOf_inv h9
  obtain ⟨xp, rfl⟩ := nameOf_inv h5
  obtain ⟨yp, rfl⟩ := nameOf_inv h7
  obtain ⟨o, f, ap, rfl⟩ := attr_inv h12.1
  obtain ⟨o', f', ap', rfl⟩ := attr_inv h12.2
  exact .mk
end Mine
end
section
/-! Walking the evaluator. -/
namespace Mine.L
open PySem
set_option maxRecDepth 100000

/-- an option's value, and what is wanted of it -/
noncomputable def oW {α : Type} (o : Option (α × AH)) (Q : α → AH → Prop) : Prop := ∃ v H', o = some (v, H') ∧ Q v H'
noncomputable def oX (o : Option (AF × AL × AH)) (P : AF → AL → AH → Prop) : Prop := ∃ f l' H', o = some (f, l', H') ∧ P f l' H'
@[scoped simp] theorem oW_some {α : Type} {v : α} {H : AH} {Q : α → AH → Prop} : oW (some (v, H)) Q ↔ Q v H := ⟨fun ⟨_, _, e, q⟩ => by cases e; exact q, fun q => ⟨_, _, rfl, q⟩⟩
@[scoped simp] theorem oX_some {f : AF} {l : AL} {H : AH} {Q : AF → AL → AH → Prop} : oX (some (f, l, H)) Q ↔ Q f l H := ⟨fun ⟨_, _, _, e, q⟩ => by cases e; exact q, fun q => ⟨_, _, _, rfl, q⟩⟩
theorem oW_bind {α β : Type} {o : Option (α × AH)} {f : α → AH → Option (β × AH)} {Q : β → AH → Prop} : oW (obind o f) Q ↔ oW o fun v H => oW (f v H) Q := by
  cases o with
  | none => exact ⟨fun ⟨_, _, e, _⟩ => (by cases e), fun ⟨_, _, e, _⟩ => (by cases e)⟩
  | some p => obtain ⟨v, H⟩ := p; exact (oW_some (Q := fun v H => oW (f v H) Q)).symm
theorem oX_bind {α : Type} {o : Option (α × AH)} {f : α → AH → Option (AF × AL × AH)} {Q : AF → AL → AH → Prop} : oX (obind o f) Q ↔ oW o fun v H => oX (f v H) Q := by
  cases o with
  | none => exact ⟨fun ⟨_, _, _, e, _⟩ => (by cases e), fun ⟨_, _, e, _⟩ => (by cases e)⟩
  | some p => obtain ⟨v, H⟩ := p; exact (oW_some (Q := fun v H => oX (f v H) Q)).symm
theorem oW_mono {α : Type} {o : Option (α × AH)} {P Q : α → AH → Prop} (h : oW o P) (k : ∀ v H, P v H → Q v H) : oW o Q := let ⟨v, H, e, p⟩ := h; ⟨v, H, e, k v H p⟩
theorem oX_mono {o : Option (AF × AL × AH)} {P Q : AF → AL → AH → Prop} (h : oX o P) (k : ∀ f l H, P f l H → Q f l H) : oX o Q := let ⟨f, l, H, e, p⟩ := h; ⟨f, l, H, e, k f l H p⟩

abbrev eW (E : Evs) (N : Names) (e : Expr) (l : AL) (H : AH) (Q : AV → AH → Prop) : Prop := oW (E.e e N l H) Q
abbrev xW (E : Evs) (N : Names) (b : List Stmt) (l : AL) (H : AH) (Q : AF → AL → AH → Prop) : Prop := oX (E.x b N l H) Q
abbrev tW (E : Evs) (N : Names) (e : Expr) (l : AL) (H : AH) (Q : Bool → AH → Prop) : Prop := oW (test E N l e H) Q
abbrev cW (E : Evs) (N : Names) (e : Expr) (l : AL) (H : AH) (Q : Bool → AH → Prop) : Prop := oW (cond E N l e H) Q

section
variable {b : Bool} {ns : List Int} {n k : Nat} {N : Names} {l : AL} {H : AH} {Q : AV → AH → Prop} {P : AF → AL → AH → Prop} {p p' : Pos} {E : Evs}
@[scoped simp] theorem e_int {i : Int} : (ev b ns (n + 1)).e (.Constant (.int i) k p) N l H = some (.int i, H) := rfl
@[scoped simp] theorem e_none : (ev b ns (n + 1)).e (.Constant .none k p) N l H = some (.none, H) := rfl
@[scoped simp] theorem e_bool {i : Bool} : (ev b ns (n + 1)).e (.Constant (.bool i) k p) N l H = some (.bool i, H) := rfl
@[scoped simp] theorem e_str {i : Str} : (ev b ns (n + 1)).e (.Constant (.str i) k p) N l H = some (.str i, H) := rfl
@[scoped simp] theorem e_flt {i : UInt64} : (ev b ns (n + 1)).e (.Constant (.float i) k p) N l H = some (.flt i, H) := rfl
@[scoped simp] theorem e_name {x : Str} (h : isVar N x = true) : (ev b ns (n + 1)).e (.Name x p) N l H = (l x).map (·, H) := if_pos h
@[scoped simp] theorem onInt_int {β : Type} {i : Int} {f : Int → Option β} : onInt (.int i) f = f i := rfl
@[scoped simp] theorem onStr_str {β : Type} {i : Str} {f : Str → Option β} : onStr (.str i) f = f i := rfl
@[scoped simp] theorem onFlt_flt {β : Type} {i : UInt64} {f : UInt64 → Option β} : onFlt (.flt i) f = f i := rfl
@[scoped simp] theorem onRef_ref {β : Type} {i : Nat} {f : Nat → Option β} : onRef (.ref i) f = f i := rfl
@[scoped simp] theorem onBool_bool {β : Type} {i : Bool} {f : Bool → Option β} : onBool (.bool i) f = f i := rfl
@[scoped simp] theorem onOne_one {α β : Type} {i : α} {f : α → Option β} : onOne [i] f = f i := rfl
@[scoped simp] theorem onTwo_two {α β : Type} {i j : α} {f : α → α → Option β} : onTwo [i, j] f = f i j := rfl
@[scoped simp] theorem nameOf_name {x : Str} : nameOf (.Name x p) = some x := rfl
@[scoped simp] theorem isNone_none : isNone .none = true := Eq.trans rfl rfl
/-! kinds of expressions -/
@[scoped simp] theorem noSet_name {x : Str} : noSet (.Name x p) = true := Eq.trans rfl rfl
@[scoped simp] theorem noSet_const {c : Const} : noSet (.Constant c k p) = true := Eq.trans rfl rfl
@[scoped simp] theorem noSet_call {f : Expr} {es : List Expr} {ks : List Keyword} : noSet (.Call f es ks p) = true := Eq.trans rfl rfl
@[scoped simp] theorem noSet_bin {a c : Expr} {op : Operator} : noSet (.BinOp a op c p) = true := Eq.trans rfl rfl
@[scoped simp] theorem noSet_attr {a : Expr} {f : Str} : noSet (.Attribute a f p) = true := Eq.trans rfl rfl
@[scoped simp] theorem noSet_sub {a c : Expr} : noSet (.Subscript a c p) = true := Eq.trans rfl rfl
@[scoped simp] theorem noSet_dict {a : List (Option Expr)} {c : List Expr} : noSet (.Dict a c p) = true := Eq.trans rfl rfl
@[scoped simp] theorem noSet_list {c : List Expr} : noSet (.List c p) = true := Eq.trans rfl rfl
@[scoped simp] theorem noSet_tuple {c : List Expr} : noSet (.Tuple c k p) = true := Eq.trans rfl rfl
@[scoped simp] theorem noSet_un {op : UnaryOp} {a : Expr} : noSet (.UnaryOp op a p) = true := Eq.trans rfl rfl
@[scoped simp] theorem noSet_ifexp {a c d : Expr} : noSet (.IfExp a c d p) = true := Eq.trans rfl rfl
@[scoped simp] theorem noSet_comp {a : Expr} {gs : List Comprehension} {sc : Scope} : noSet (.ListComp a gs sc p) = true := Eq.trans rfl rfl
@[scoped simp] theorem noSet_cmp {a : Expr} {ops : List CmpOp} {cs : List Expr} : noSet (.Compare a ops cs p) = true := Eq.trans rfl rfl
@[scoped simp] theorem plainE_name {x : Str} : plainE (.Name x p) = true := Eq.trans rfl rfl
@[scoped simp] theorem plainE_const {c : Const} : plainE (.Constant c k p) = true := Eq.trans rfl rfl
@[scoped simp] theorem plainE_call {f : Expr} {es : List Expr} {ks : List Keyword} : plainE (.Call f es ks p) = true := Eq.trans rfl rfl
@[scoped simp] theorem plainE_bin {a c : Expr} {op : Operator} : plainE (.BinOp a op c p) = true := Eq.trans rfl rfl
@[scoped simp] theorem plainE_attr {a : Expr} {f : Str} : plainE (.Attribute a f p) = true := Eq.trans rfl rfl
@[scoped simp] theorem plainE_sub {a c : Expr} : plainE (.Subscript a c p) = true := Eq.trans rfl rfl
@[scoped simp] theorem plainE_dict {a : List (Option Expr)} {c : List Expr} : plainE (.Dict a c p) = true := Eq.trans rfl rfl
@[scoped simp] theorem plainE_list {c : List Expr} : plainE (.List c p) = true := Eq.trans rfl rfl
@[scoped simp] theorem plainE_tuple {c : List Expr} : plainE (.Tuple c k p) = true := Eq.trans rfl rfl
@[scoped simp] theorem plainE_un {op : UnaryOp} {a : Expr} : plainE (.UnaryOp op a p) = true := Eq.trans rfl rfl
@[scoped simp] theorem plainE_ifexp {a c d : Expr} : plainE (.IfExp a c d p) = true := Eq.trans rfl rfl
@[scoped simp] theorem plainE_cmp {a : Expr} {ops : List CmpOp} {cs : List Expr} : plainE (.Compare a ops cs p) = true := Eq.trans rfl rfl
@[scoped simp] theorem plainE_comp {a : Expr} {gs : List Comprehension} {sc : Scope} : plainE (.ListComp a gs sc p) = true := Eq.trans rfl rfl
@[scoped simp] theorem plainArgs_nil : plainArgs [] = true := Eq.trans rfl rfl
@[scoped simp] theorem plainArgs_one {a : Expr} : plainArgs [a] = plainE a := by simp [plainArgs]
@[scoped simp] theorem plainArgs_two {a c : Expr} : plainArgs [a, c] = (plainE a && plainE c) := by simp [plainArgs]
@[scoped simp] theorem plainArgs_three {a c d : Expr} : plainArgs [a, c, d] = (plainE a && plainE c && plainE d) := by simp [plainArgs, Bool.and_assoc]
@[scoped simp] theorem plainArgs_four {a c d e : Expr} : plainArgs [a, c, d, e] = (plainE a && plainE c && plainE d && plainE e) := by simp [plainArgs, Bool.and_assoc]
@[scoped simp] theorem plainArgs_six {a c d e f g : Expr} : plainArgs [a, c, d, e, f, g] = (plainE a && plainE c && plainE d && plainE e && plainE f && plainE g) := by simp [plainArgs, Bool.and_assoc]
@[scoped simp] theorem baseE_name {x : Str} : baseE (.Name x p) = true := Eq.trans rfl rfl
@[scoped simp] theorem baseE_const {c : Const} : baseE (.Constant c k p) = true := Eq.trans rfl rfl
@[scoped simp] theorem noComp_name {x : Str} : noComp (.Name x p) = true := Eq.trans rfl rfl
@[scoped simp] theorem noComp_const {c : Const} : noComp (.Constant c k p) = true := Eq.trans rfl rfl
@[scoped simp] theorem noComp_call {f : Expr} {es : List Expr} {ks : List Keyword} : noComp (.Call f es ks p) = true := Eq.trans rfl rfl
@[scoped simp] theorem noComp_bin {a c : Expr} {op : Operator} : noComp (.BinOp a op c p) = true := Eq.trans rfl rfl
@[scoped simp] theorem noComp_attr {a : Expr} {f : Str} : noComp (.Attribute a f p) = true := Eq.trans rfl rfl
@[scoped simp] theorem noComp_sub {a c : Expr} : noComp (.Subscript a c p) = true := Eq.trans rfl rfl
@[scoped simp] theorem noComp_dict {a : List (Option Expr)} {c : List Expr} : noComp (.Dict a c p) = true := Eq.trans rfl rfl
@[scoped simp] theorem noComp_list {c : List Expr} : noComp (.List c p) = true := Eq.trans rfl rfl
@[scoped simp] theorem noComp_tuple {c : List Expr} : noComp (.Tuple c k p) = true := Eq.trans rfl rfl
@[scoped simp] theorem noComp_ifexp {a c d : Expr} : noComp (.IfExp a c d p) = true := Eq.trans rfl rfl
@[scoped simp] theorem noComp_cmp {a : Expr} {ops : List CmpOp} {cs : List Expr} : noComp (.Compare a ops cs p) = true := Eq.trans rfl rfl
@[scoped simp] theorem e_bin {a c : Expr} {op : Operator} : (ev b ns (n + 1)).e (.BinOp a op c p) N l H = obind ((ev b ns n).e a N l H) fun u H₁ => obind ((ev b ns n).e c N l H₁) fun v H₂ => binop op u v H₂ := rfl
@[scoped simp] theorem e_ifexp {t a c : Expr} : (ev b ns (n + 1)).e (.IfExp t a c p) N l H = obind (test (ev b ns n) N l t H) fun q H₁ => if q then (ev b ns n).e a N l H₁ else (ev b ns n).e c N l H₁ := rfl
@[scoped simp] theorem evs_nil : evs E N l [] H = some ([], H) := rfl
@[scoped simp] theorem evs_cons {a : Expr} {r : List Expr} : evs E N l (a :: r) H = obind (E.e a N l H) fun v H₁ => obind (evs E N l r H₁) fun vs H₂ => some (v :: vs, H₂) := rfl
@[scoped simp] theorem e_list {es : List Expr} (h : plainArgs es = true) : (ev b ns (n + 1)).e (.List es p) N l H = obind (evs (ev b ns n) N l es H) fun vs H₁ => some (.ref H₁.length, H₁ ++ [.list vs]) := by
  show (if plainArgs es = true then obind (evs (ev b ns n) N l es H) fun vs H₁ => alloc H₁ (.list vs) else none) = _
  exact if_pos h
@[scoped simp] theorem e_tuple {es : List Expr} (h : plainArgs es = true) : (ev b ns (n + 1)).e (.Tuple es k p) N l H = obind (evs (ev b ns n) N l es H) fun vs H₁ => some (.ref H₁.length, H₁ ++ [.tup vs]) := by
  show (if plainArgs es = true then obind (evs (ev b ns n) N l es H) fun vs H₁ => alloc H₁ (.tup vs) else none) = _
  exact if_pos h
@[scoped simp] theorem e_dict : (ev b ns (n + 1)).e (.Dict [] [] p) N l H = some (.ref H.length, H ++ [.dict []]) := rfl
@[scoped simp] theorem e_cmp {a c : Expr} {op : CmpOp} (hc : noSet c = true) : (ev b ns (n + 1)).e (.Compare a [op] [c] p) N l H = obind ((ev b ns n).e a N l H) fun u H₁ => obind ((ev b ns n).e c N l H₁) fun v H₂ => (cmpop op u v H₂).map fun q => (AV.bool q, H₂) := if_pos hc
@[scoped simp] theorem e_neg {a : Expr} : (ev b ns (n + 1)).e (.UnaryOp .USub a p) N l H = obind ((ev b ns n).e a N l H) fun v H₁ => onInt v fun i => some (.int (-i), H₁) := rfl
theorem e_attr {c f : Str} {v w : AV} {q : Pos} (h1 : isVar N c = true) (h2 : isField f = true) (h3 : l c = some v) (h4 : attrOf v f H = some w) : (ev b ns (n + 1)).e (.Attribute (.Name c q) f p) N l H = some (w, H) := by
  show evAttr N l c f H = _
  unfold evAttr
  rw [if_pos (by rw [h1, h2]; rfl), h3]
  show (attrOf v f H).map _ = _
  rw [h4]; rfl
theorem e_clsS {q : Pos} (h1 : isVar N "Whitespace" = false) (h2 : isGlob N "Whitespace" = true) : (ev b ns (n + 1)).e (.Attribute (.Name "Whitespace" q) "S" p) N l H = some (.str " ", H) := by
  show evAttr N l "Whitespace" "S" H = _
  unfold evAttr
  rw [h1, if_neg (by simp), if_pos ⟨h2, rfl⟩]
  exact if_pos rfl
theorem e_clsT {q : Pos} (h1 : isVar N "Whitespace" = false) (h2 : isGlob N "Whitespace" = true) : (ev b ns (n + 1)).e (.Attribute (.Name "Whitespace" q) "T" p) N l H = some (.str "\t", H) := by
  show evAttr N l "Whitespace" "T" H = _
  unfold evAttr
  rw [h1, if_neg (by simp), if_pos ⟨h2, rfl⟩, if_neg (by decide +kernel)]
  exact if_pos rfl
@[scoped simp] theorem e_slice {a : Expr} {lo hi st : Option Expr} {q : Pos} : (ev b ns (n + 1)).e (.Subscript a (.Slice lo hi st q) p) N l H =
    obind ((ev b ns n).e a N l H) fun v H₁ => obind (slicePart (ev b ns n) N l lo H₁) fun x H₂ => obind (slicePart (ev b ns n) N l hi H₂) fun y H₃ => obind (slicePart (ev b ns n) N l st H₃) fun z H₄ => getSlice ns v x y z H₄ := rfl
@[scoped simp] theorem slice_none : slicePart E N l none H = some (none, H) := rfl
@[scoped simp] theorem slice_some {e : Expr} : slicePart E N l (some e) H = obind (E.e e N l H) fun v H₁ => some (some v, H₁) := rfl
@[scoped simp] theorem e_sub_name {a : Expr} {x : Str} {q : Pos} : (ev b ns (n + 1)).e (.Subscript a (.Name x q) p) N l H = obind ((ev b ns n).e a N l H) fun u H₁ => obind ((ev b ns n).e (.Name x q) N l H₁) fun v H₂ => getItem u v H₂ := rfl
@[scoped simp] theorem e_sub_bin {a x y : Expr} {o : Operator} {q : Pos} : (ev b ns (n + 1)).e (.Subscript a (.BinOp x o y q) p) N l H = obind ((ev b ns n).e a N l H) fun u H₁ => obind ((ev b ns n).e (.BinOp x o y q) N l H₁) fun v H₂ => getItem u v H₂ := rfl
@[scoped simp] theorem e_sub_const {a : Expr} {c : Const} {q : Pos} : (ev b ns (n + 1)).e (.Subscript a (.Constant c k q) p) N l H = obind ((ev b ns n).e a N l H) fun u H₁ => obind ((ev b ns n).e (.Constant c k q) N l H₁) fun v H₂ => getItem u v H₂ := rfl
@[scoped simp] theorem e_sub_un {a x : Expr} {o : UnaryOp} {q : Pos} : (ev b ns (n + 1)).e (.Subscript a (.UnaryOp o x q) p) N l H = obind ((ev b ns n).e a N l H) fun u H₁ => obind ((ev b ns n).e (.UnaryOp o x q) N l H₁) fun v H₂ => getItem u v H₂ := rfl
@[scoped simp] theorem e_sub_sub {a x y : Expr} {q : Pos} : (ev b ns (n + 1)).e (.Subscript a (.Subscript x y q) p) N l H = obind ((ev b ns n).e a N l H) fun u H₁ => obind ((ev b ns n).e (.Subscript x y q) N l H₁) fun v H₂ => getItem u v H₂ := rfl
@[scoped simp] theorem e_meth {o : Expr} {f : Str} {ap : Pos} {es : List Expr} (hc : (baseE o && plainArgs es && ap.endLine == p.line) = true) : (ev b ns (n + 1)).e (.Call (.Attribute o f ap) es [] p) N l H =
    obind ((ev b ns n).e o N l H) fun v H₁ => obind (evs (ev b ns n) N l es H₁) fun vs H₂ => if sameKind v H₁ H₂ = true then method (ev b ns n) v f vs H₂ else none := if_pos hc
@[scoped simp] theorem e_callN {f : Str} {q : Pos} {es : List Expr} (hc : (isGlob N f && plainArgs es) = true) : (ev b ns (n + 1)).e (.Call (.Name f q) es [] p) N l H = obind (evs (ev b ns n) N l es H) fun vs H₁ => callF (ev b ns n) f vs H₁ := if_pos hc
theorem callF_def {f : Str} {vs : List AV} (hd : isDef f = true) : callF E f vs H = E.call f vs H := by
  have hk : f ≠ "Whitespace" ∧ isBuiltin f = false := by
    unfold isDef at hd
    simp only [List.any_cons, List.any_nil, Bool.or_false, Bool.or_eq_true, decide_eq_true_eq] at hd
    rcases hd with rfl | rfl | rfl | rfl | rfl | rfl | rfl | rfl | rfl | rfl | rfl | rfl <;> exact ⟨by decide +kernel, by decide +kernel⟩
  unfold callF
  simp only [hk.1, hk.2, if_false, Bool.false_eq_true]
theorem callF_bi {f : Str} {vs : List AV} (hd : isBuiltin f = true) : callF E f vs H = builtin f vs H := by
  have hk : f ≠ "Whitespace" := by
    rintro rfl
    revert hd; decide +kernel
  unfold callF
  simp only [hk, hd, if_false, if_true]
@[scoped simp] theorem call_len {vs : List AV} : callF E "len" vs H = builtin "len" vs H := callF_bi (by decide +kernel)
@[scoped simp] theorem call_max {vs : List AV} : callF E "max" vs H = builtin "max" vs H := callF_bi (by decide +kernel)
@[scoped simp] theorem call_min {vs : List AV} : callF E "min" vs H = builtin "min" vs H := callF_bi (by decide +kernel)
@[scoped simp] theorem call_int {vs : List AV} : callF E "int" vs H = builtin "int" vs H := callF_bi (by decide +kernel)
@[scoped simp] theorem call_sum {vs : List AV} : callF E "sum" vs H = builtin "sum" vs H := callF_bi (by decide +kernel)
@[scoped simp] theorem call_tuple {vs : List AV} : callF E "tuple" vs H = builtin "tuple" vs H := callF_bi (by decide +kernel)
@[scoped simp] theorem call_hsv {vs : List AV} : callF E "hsv_to_rgb" vs H = E.call "hsv_to_rgb" vs H := callF_def (by decide +kernel)
@[scoped simp] theorem call_strip {vs : List AV} : callF E "_strip_quoted_realnames" vs H = E.call "_strip_quoted_realnames" vs H := callF_def (by decide +kernel)
@[scoped simp] theorem call_check {vs : List AV} : callF E "_check_parenthesis" vs H = E.call "_check_parenthesis" vs H := callF_def (by decide +kernel)
@[scoped simp] theorem call_numbers {vs : List AV} : callF E "_law_numbers" vs H = E.call "_law_numbers" vs H := callF_def (by decide +kernel)
@[scoped simp] theorem call_pieces {vs : List AV} : callF E "_law_pieces" vs H = E.call "_law_pieces" vs H := callF_def (by decide +kernel)
@[scoped simp] theorem call_rows {vs : List AV} : callF E "_law_rows" vs H = E.call "_law_rows" vs H := callF_def (by decide +kernel)
@[scoped simp] theorem call_cells {vs : List AV} : callF E "_law_cells" vs H = E.call "_law_cells" vs H := callF_def (by decide +kernel)
@[scoped simp] theorem call_paint {vs : List AV} : callF E "_law_paint" vs H = E.call "_law_paint" vs H := callF_def (by decide +kernel)
@[scoped simp] theorem call_due {vs : List AV} : callF E "_law_due" vs H = E.call "_law_due" vs H := callF_def (by decide +kernel)
@[scoped simp] theorem call_many {vs : List AV} : callF E "_law_many" vs H = E.call "_law_many" vs H := callF_def (by decide +kernel)
@[scoped simp] theorem call_spans {vs : List AV} : callF E "_law_spans" vs H = E.call "_law_spans" vs H := callF_def (by decide +kernel)
@[scoped simp] theorem call_astray {vs : List AV} : callF E "_law_astray" vs H = E.call "_law_astray" vs H := callF_def (by decide +kernel)
theorem e_comp {elt tg it : Expr} {ifs : List Expr} {sc : Scope} : (ev b ns (n + 1)).e (.ListComp elt [⟨tg, it, ifs, 0⟩] sc p) N l H = evComp (ev b ns n) N l H elt tg it ifs sc := rfl

noncomputable def omap (o : Option Bool) (H : AH) : Option (Bool × AH) := o.map (·, H)
@[scoped simp] theorem omap_some {q : Bool} : omap (some q) H = some (q, H) := rfl
@[scoped simp] theorem test_cmp {a c : Expr} {op : CmpOp} (hc : noSet c = true) : test E N l (.Compare a [op] [c] p) H = obind (E.e a N l H) fun u H₁ => obind (E.e c N l H₁) fun v H₂ => omap (cmpop op u v H₂) H₂ := if_pos hc
@[scoped simp] theorem test_chain {a c d : Expr} {op op' : CmpOp} (hc : noSet d = true) : test E N l (.Compare a [op, op'] [c, d] p) H = obind (E.e a N l H) fun u H₁ => obind (E.e c N l H₁) fun v H₂ => obind (omap (cmpop op u v H₂) H₂) fun q H₃ => if q then obind (E.e d N l H₃) fun z H₄ => omap (cmpop op' v z H₄) H₄ else some (false, H₃) := if_pos hc
@[scoped simp] theorem test_name {x : Str} {q : Pos} : test E N l (.Name x q) H = obind (E.e (.Name x q) N l H) fun v H₁ => onBool v fun q => some (q, H₁) := rfl
@[scoped simp] theorem test_call {f : Expr} {es : List Expr} {ks : List Keyword} {q : Pos} : test E N l (.Call f es ks q) H = obind (E.e (.Call f es ks q) N l H) fun v H₁ => onBool v fun q => some (q, H₁) := rfl
@[scoped simp] theorem cond_cmp {a : Expr} {ops : List CmpOp} {cs : List Expr} : cond E N l (.Compare a ops cs p) H = test E N l (.Compare a ops cs p) H := rfl
@[scoped simp] theorem cond_or2 {a c : Expr} : cond E N l (.BoolOp .Or [a, c] p) H = obind (test E N l a H) fun q H₁ => if q then some (true, H₁) else test E N l c H₁ := rfl
@[scoped simp] theorem cond_or3 {a c d : Expr} : cond E N l (.BoolOp .Or [a, c, d] p) H = obind (test E N l a H) fun q H₁ => if q then some (true, H₁) else obind (test E N l c H₁) fun q H₂ => if q then some (true, H₂) else test E N l d H₂ := rfl
end
end Mine.L
end
section
/-! Walking the evaluator: statements, loops, comprehensions. -/
namespace Mine.L
open PySem
set_option maxRecDepth 100000

@[scoped simp] theorem ofString_inj {a b : String} : (Str.ofString a = Str.ofString b) = (a = b) := by
  apply propext
  constructor
  · intro h
    rw [Str.ofString_eq_toList, Str.ofString_eq_toList] at h
    injection h with h
    have h := congrArg Array.toList h
    simp only at h
    have inj : ∀ (x y : List Char), x.map Char.toNat = y.map Char.toNat → x = y := by
      intro x
      induction x with
      | nil => intro y h; cases y with | nil => rfl | cons _ _ => cases h
      | cons c r ih =>
        intro y h
        cases y with
        | nil => cases h
        | cons d q =>
          rw [List.map_cons, List.map_cons] at h
          injection h with h1 h2
          rw [ih q h2, Char.toNat_inj.mp h1]
    have := inj _ _ h
    exact String.toList_inj.mp this
  · intro h; rw [h]
@[scoped simp] theorem ofString_beq {a b : String} : (Str.ofString a == Str.ofString b) = (a == b) := by
  rw [Bool.eq_iff_iff]
  simp
@[scoped simp] theorem put_same {l : AL} {x : Str} {v : AV} : put l x v x = some v := if_pos rfl
@[scoped simp] theorem put_other {l : AL} {x y : String} {v : AV} (h : (x == y) = false) : put l (Str.ofString y) v (Str.ofString x) = l (Str.ofString x) := if_neg fun e => by rw [ofString_inj] at e; rw [e, beq_self_eq_true] at h; cases h
@[scoped simp] theorem bindAll_nil {x : Str} : bindAll [] [] x = none := rfl
@[scoped simp] theorem bindAll_cons {p : Str} {ps : List Str} {v : AV} {vs : List AV} : bindAll (p :: ps) (v :: vs) = put (bindAll ps vs) p v := rfl
@[scoped simp] theorem bindT_name {N : Names} {x : Str} {p : Pos} {v : AV} {l : AL} (hc : isVar N x = true) : bindT N (.Name x p) [v] l = some (put l x v) := if_pos hc
@[scoped simp] theorem bindT_pair {N : Names} {x y : Str} {p q r : Pos} {k : Nat} {v u : AV} {l : AL} (hc : (isVar N x && isVar N y) = true) : bindT N (.Tuple [.Name x p, .Name y q] k r) [v, u] l = some (put (put l x v) y u) := if_pos hc
@[scoped simp] theorem bindK_name {N : Names} {x : Str} {p : Pos} {v : AV} {l : AL} : bindK N (.Name x p) [v] l = if N.lookup x = some .local then some (put l x v) else none := by
  show (if decide (N.lookup x = some .local) = true then some (put l x v) else none) = _
  simp only [decide_eq_true_eq]
@[scoped simp] theorem bindK_pair {N : Names} {x y : Str} {p q r : Pos} {k : Nat} {v u : AV} {l : AL} : bindK N (.Tuple [.Name x p, .Name y q] k r) [v, u] l = if N.lookup x = some .local ∧ N.lookup y = some .local then some (put (put l x v) y u) else none := by
  show (if (decide (N.lookup x = some .local) && decide (N.lookup y = some .local)) = true then some (put (put l x v) y u) else none) = _
  simp only [Bool.and_eq_true, decide_eq_true_eq]

@[scoped simp] theorem obind_some {α β : Type} {v : α} {H : AH} {f : α → AH → Option β} : obind (some (v, H)) f = f v H := rfl
noncomputable def oI (o : Option (List (List AV) × (AH → Bool) × AH)) (Q : List (List AV) → (AH → Bool) → AH → Prop) : Prop := ∃ vs g H, o = some (vs, g, H) ∧ Q vs g H
section
variable {b : Bool} {ns : List Int} {n k : Nat} {N : Names} {l : AL} {H : AH} {Q : AV → AH → Prop} {P : AF → AL → AH → Prop} {p p' : Pos} {E : Evs}
@[scoped simp] theorem exL_nil : oX (exL E N [] l H) P ↔ P .next l H := oX_some
theorem exL_cons {s : Stmt} {r : List Stmt} : oX (exL E N (s :: r) l H) P ↔ oX (exS E s N l H) (fun f l' H' => match f with | .next => oX (exL E N r l' H') P | f => P f l' H') := by
  conv => lhs; unfold exL
  cases h : exS E s N l H with
  | none => exact ⟨fun ⟨_, _, _, e, _⟩ => (by cases e), fun ⟨_, _, _, e, _⟩ => (by cases e)⟩
  | some q =>
    obtain ⟨f, l', H'⟩ := q
    rw [oX_some]
    cases f with
    | next => exact Iff.rfl
    | brk => exact oX_some
    | ret v => exact oX_some
@[scoped simp] theorem x_ev {bd : List Stmt} : (ev b ns (n + 1)).x bd N l H = exL (ev b ns n) N bd l H := rfl
@[scoped simp] theorem exS_expr {e : Expr} (hc : noComp e = true) : exS E (.Expr e p) N l H = obind (E.e e N l H) fun _ H₁ => some (.next, l, H₁) := if_pos hc
@[scoped simp] theorem exS_ret {e : Expr} : exS E (.Return (some e) p) N l H = obind (E.e e N l H) fun v H₁ => some (.ret v, l, H₁) := rfl
@[scoped simp] theorem exS_break : exS E (.Break p) N l H = some (.brk, l, H) := rfl
@[scoped simp] theorem asgn_some : asgn (some (l, H)) = some (.next, l, H) := rfl
theorem ncomp_none {ts : List Expr} {e : Expr} (h : noComp e = true) : ncompParts ts e = none := by
  have c : compOf e = none := by
    revert h
    cases e <;> first | exact fun _ => rfl | exact ff
  unfold ncompParts
  rw [c]
  cases ts with
  | nil => rfl
  | cons t r =>
    cases r with
    | nil => show (nameOf t).bind (fun _ => none) = none; cases nameOf t <;> rfl
    | cons _ _ => rfl
theorem swap_none {ts : List Expr} {e : Expr} (h : storesOk ts e = true) : swapParts ts e = none := by
  cases q : swapParts ts e with
  | none => rfl
  | some z =>
    obtain ⟨x, y, r⟩ := z
    cases swapParts_inv q
    exact ff h
@[scoped simp] theorem exS_assign {ts : List Expr} {e : Expr} (h : storesOk ts e = true) : exS E (.Assign ts e p) N l H = obind (E.e e N l H) fun v H₁ => asgn (assignN E N v ts l H₁) := by
  show exAsgn E ts e N l H = _
  have h1 := h
  unfold storesOk at h1
  rw [Bool.and_eq_true, Bool.and_eq_true] at h1
  unfold exAsgn
  rw [ncomp_none h1.1.1, swap_none h]
  exact if_pos h
theorem exS_ncomp {x : Str} {q q' : Pos} {elt tg it : Expr} {ifs : List Expr} {sc : Scope} (h : isVar N x = true) : exS E (.Assign [.Name x q] (.ListComp elt [⟨tg, it, ifs, 0⟩] sc q') p) N l H = obind (evComp E N l H elt tg it ifs sc) fun v H₁ => some (.next, put l x v, H₁) := by
  show (if isVar N x = true then obind (evComp E N l H elt tg it ifs sc) fun v H₁ => some (AF.next, put l x v, H₁) else none) = _
  exact if_pos h
@[scoped simp] theorem augV_add {x : Str} {a c : Int} : augV .Add x a c l H = some (.next, put l x (.int (a + c)), H) := rfl
@[scoped simp] theorem augV_sub {x : Str} {a c : Int} : augV .Sub x a c l H = some (.next, put l x (.int (a - c)), H) := rfl
@[scoped simp] theorem exS_aug {x : Str} {q : Pos} {e : Expr} {op : Operator} {a : Int} (h : isVar N x = true) (hl : l x = some (.int a)) : exS E (.AugAssign (.Name x q) op e p) N l H = obind (E.e e N l H) fun v H₁ => onInt v fun c => augV op x a c l H₁ := by
  show (if isVar N x = true then (l x).bind (fun w => onInt w fun a => obind (E.e e N l H) fun v H₁ => onInt v fun b => augV op x a b l H₁) else none) = _
  rw [if_pos h, hl]; rfl
@[scoped simp] theorem exS_if {t : Expr} {a c : List Stmt} : exS E (.If t a c p) N l H = obind (cond E N l t H) fun q H₁ => if q then E.x a N l H₁ else E.x c N l H₁ := rfl
@[scoped simp] theorem exS_for {tg it : Expr} {body : List Stmt} : oX (exS E (.For tg it body [] p) N l H) P ↔ oI (items E N l H tg it) fun vs g H₁ => oX (forIt (bindT N tg) (fun l H => E.x body N l H) g vs l H₁) P := by
  show oX (match items E N l H tg it with
    | some (vs, g, H₁) => forIt (bindT N tg) (fun l H => E.x body N l H) g vs l H₁
    | none => none) P ↔ _
  cases items E N l H tg it with
  | none => exact ⟨fun ⟨_, _, _, e, _⟩ => (by cases e), fun ⟨_, _, _, e, _⟩ => (by cases e)⟩
  | some q =>
    obtain ⟨vs, g, H₁⟩ := q
    exact ⟨fun h => ⟨vs, g, H₁, rfl, h⟩, fun ⟨_, _, _, e, h⟩ => (by cases e; exact h)⟩
@[scoped simp] theorem assignN_nil {v : AV} : assignN E N v [] l H = some (l, H) := rfl
@[scoped simp] theorem assignN_cons {v : AV} {t : Expr} {r : List Expr} : assignN E N v (t :: r) l H = obind (assign1 E N t v l H) fun l' H' => assignN E N v r l' H' := rfl
@[scoped simp] theorem assign_name {v : AV} {x : Str} {q : Pos} (h : isVar N x = true) : assign1 E N (.Name x q) v l H = some (put l x v, H) := if_pos h
theorem oI_range {o : Option (List (List AV) × (AH → Bool) × AH)} {vs : List (List AV)} {g : AH → Bool} {H : AH} {Q : List (List AV) → (AH → Bool) → AH → Prop} (e : o = some (vs, g, H)) (q : Q vs g H) : oI o Q := ⟨vs, g, H, e, q⟩
theorem items_range {tg : Expr} {es : List Expr} {q : Pos} (h : (isGlob N "range" && plainArgs es) = true) (ht : soleTarget tg = true) : items E N l H tg (.Call (.Name "range" q) es [] p) = obind (evs E N l es H) rangeV := by
  show (if (isGlob N "range" && plainArgs es) = true then obind (evs E N l es H) (fun vs H' => if (decide (Str.ofString "range" = Str.ofString "range") && soleTarget tg) = true then rangeV vs H' else _) else none) = _
  rw [if_pos h]
  congr 1
  funext vs H'
  exact if_pos (by rw [ht]; simp)
theorem it_range1 {tg a : Expr} {q : Pos} {Q : List (List AV) → (AH → Bool) → AH → Prop} (h : (isGlob N "range" && plainArgs [a]) = true) (ht : soleTarget tg = true)
    (hq : oW (E.e a N l H) fun v H₁ => ∃ i, v = .int i ∧ small i = true ∧ Q (rangeL 0 i) (fun _ => true) H₁) : oI (items E N l H tg (.Call (.Name "range" q) [a] [] p)) Q := by
  obtain ⟨v, H₁, h1, i, rfl, hs, hq⟩ := hq
  rw [items_range h ht]
  refine oI_range ?_ hq
  show obind (obind (E.e a N l H) fun v H₁ => some ([v], H₁)) rangeV = _
  rw [h1]
  exact if_pos hs
theorem it_range2 {tg a c : Expr} {q : Pos} {Q : List (List AV) → (AH → Bool) → AH → Prop} (h : (isGlob N "range" && plainArgs [a, c]) = true) (ht : soleTarget tg = true)
    (hq : oW (E.e a N l H) fun v H₁ => oW (E.e c N l H₁) fun u H₂ => ∃ i j, v = .int i ∧ u = .int j ∧ (small i && small j) = true ∧ Q (rangeL i j) (fun _ => true) H₂) : oI (items E N l H tg (.Call (.Name "range" q) [a, c] [] p)) Q := by
  obtain ⟨v, H₁, h1, u, H₂, h2, i, j, rfl, rfl, hs, hq⟩ := hq
  rw [items_range h ht]
  refine oI_range ?_ hq
  show obind (obind (E.e a N l H) fun v H₁ => obind (obind (E.e c N l H₁) fun w H₂ => some ([w], H₂)) fun vs H₂ => some (v :: vs, H₂)) rangeV = _
  rw [h1]
  show obind (obind (obind (E.e c N l H₁) _) _) rangeV = _
  rw [h2]
  exact if_pos hs
end
end Mine.L
end
section
/-! Loops and comprehensions. -/
namespace Mine.L
open PySem
set_option maxRecDepth 100000

section
variable {b : Bool} {ns : List Int} {n k : Nat} {N : Names} {l : AL} {H : AH} {P : AF → AL → AH → Prop} {p p' : Pos} {E : Evs} {Q : List (List AV) → (AH → Bool) → AH → Prop}
noncomputable def notCall (e : Expr) : Bool := e.ctorIdx != 16
theorem it_of {tg it : Expr} (hc : notCall it = true) (h : (noSet it && soleTarget tg) = true) : items E N l H tg it = obind (E.e it N l H) itemsOf := by
  have c : callOf it = none := by
    revert hc
    clear h
    cases it <;> first | exact fun _ => rfl | exact ff
  unfold items nameCall
  rw [c]
  exact if_pos h
theorem itemsOf_list {H : AH} {k : Nat} {x : List AV} (hk : H[k]? = some (.list x)) : itemsOf (.ref k) H = some (x.map fun v => [v], fun h => decide (h[k]? = some (.list x)), H) := by
  unfold itemsOf
  dsimp only
  rw [hk]
theorem itemsOf_dict {H : AH} {k : Nat} {x : List (Int × Int)} (hk : H[k]? = some (.dict x)) : itemsOf (.ref k) H = some (x.map fun p => [AV.int p.1], fun h => decide (h[k]? = some (.dict x)), H) := by
  unfold itemsOf
  dsimp only
  rw [hk]
theorem it_list {tg it : Expr} (hc : notCall it = true) (h : (noSet it && soleTarget tg) = true) {k : Nat} {H' : AH} {x : List AV} (e : E.e it N l H = some (.ref k, H')) (hk : H'[k]? = some (.list x))
    (q : Q (x.map fun v => [v]) (fun h => decide (h[k]? = some (.list x))) H') : oI (items E N l H tg it) Q := by
  rw [it_of hc h, e]
  exact oI_range (itemsOf_list hk) q
theorem it_dict {tg it : Expr} (hc : notCall it = true) (h : (noSet it && soleTarget tg) = true) {k : Nat} {H' : AH} {x : List (Int × Int)} (e : E.e it N l H = some (.ref k, H')) (hk : H'[k]? = some (.dict x))
    (q : Q (x.map fun p => [AV.int p.1]) (fun h => decide (h[k]? = some (.dict x))) H') : oI (items E N l H tg it) Q := by
  rw [it_of hc h, e]
  exact oI_range (itemsOf_dict hk) q
theorem it_str {tg it : Expr} (hc : notCall it = true) (h : (noSet it && soleTarget tg) = true) {H' : AH} {s : Str} (e : E.e it N l H = some (.str s, H'))
    (q : Q (s.cps.toList.map fun c => [AV.str ⟨#[c]⟩]) (fun _ => true) H') : oI (items E N l H tg it) Q := by
  rw [it_of hc h, e]
  exact oI_range rfl q
theorem callItems_at {tg : Expr} {f : Str} {es : List Expr} {vs : List AV} {H' : AH} (h : (isGlob N f && plainArgs es) = true) (e : evs E N l es H = some (vs, H')) : callItems E N l H tg f es = (if (decide (f = "range") && soleTarget tg) = true then rangeV vs H'
    else if (decide (f = "zip") && isPairTarget tg) = true then zipV vs H'
    else if (decide (f = "_iter_escaped_chars") && isPairTarget tg && E.gen) = true then unitsV vs H'
    else Option.none) := by
  unfold callItems
  rw [if_pos h, e]
  rfl
theorem it_gen {tg a : Expr} {q : Pos} (h : (isGlob N "_iter_escaped_chars" && plainArgs [a]) = true) (ht : isPairTarget tg = true) (hg : E.gen = true) {H' : AH} {s : Str} (e : E.e a N l H = some (.str s, H'))
    (hq : Q (unitsFrom 0 false s.cps.toList) (fun _ => true) H') : oI (items E N l H tg (.Call (.Name "_iter_escaped_chars" q) [a] [] p)) Q := by
  refine oI_range ?_ hq
  show callItems E N l H tg "_iter_escaped_chars" [a] = _
  rw [callItems_at (vs := [.str s]) (H' := H') h (by show obind (E.e a N l H) (fun v H₁ => some ([v], H₁)) = _; rw [e]; rfl)]
  rw [if_neg (by rw [decide_eq_false (by decide +kernel)]; simp), if_neg (by rw [decide_eq_false (by decide +kernel)]; simp)]
  exact if_pos (by rw [ht, hg]; simp)
theorem it_zip {tg a c : Expr} {q : Pos} (h : (isGlob N "zip" && plainArgs [a, c]) = true) (ht : isPairTarget tg = true) {H₁ H₂ : AH} {j k : Nat} {x y : List AV} (e1 : E.e a N l H = some (.ref j, H₁)) (e2 : E.e c N l H₁ = some (.ref k, H₂))
    (h1 : H₂[j]? = some (.list x)) (h2 : H₂[k]? = some (.list y)) (hq : Q (zipL x y) (fun h => decide (h[j]? = some (.list x)) && decide (h[k]? = some (.list y))) H₂) : oI (items E N l H tg (.Call (.Name "zip" q) [a, c] [] p)) Q := by
  refine oI_range ?_ hq
  show callItems E N l H tg "zip" [a, c] = _
  rw [callItems_at (vs := [.ref j, .ref k]) (H' := H₂) h (by
    show obind (E.e a N l H) (fun v H₁ => obind (obind (E.e c N l H₁) fun w H₂ => some ([w], H₂)) fun vs H₂ => some (v :: vs, H₂)) = _
    rw [e1]
    show obind (obind (E.e c N l H₁) _) _ = _
    rw [e2]; rfl)]
  rw [if_neg (by rw [decide_eq_false (by decide +kernel)]; simp), if_pos (by rw [ht]; simp)]
  show (listAt H₂ j).bind _ = _
  unfold listAt
  rw [h1, h2]
  rfl

/-- a loop by its invariant -/
theorem for_inv {bind : List AV → AL → Option AL} {body : AL → AH → Option (AF × AL × AH)} {g : AH → Bool} (I : List (List AV) → AL → AH → Prop)
    (step : ∀ v vs l H, I (v :: vs) l H → g H = true ∧ ∃ l₁, bind v l = some l₁ ∧ oX (body l₁ H) fun f l' H' => match f with
      | .next => I vs l' H'
      | .brk => P .next l' H'
      | .ret x => P (.ret x) l' H')
    (done : ∀ l H, I [] l H → g H = true ∧ P .next l H) : ∀ (vs : List (List AV)) (l : AL) (H : AH), I vs l H → oX (forIt bind body g vs l H) P
  | [], l, H, h => by
    obtain ⟨h1, h2⟩ := done l H h
    unfold forIt
    rw [if_pos h1]
    exact oX_some.mpr h2
  | v :: vs, l, H, h => by
    obtain ⟨h1, l₁, h2, f, l', H', h3, h4⟩ := step v vs l H h
    unfold forIt
    rw [if_pos h1, h2, Option.bind_some, h3]
    cases f with
    | next => exact for_inv I step done vs l' H' h4
    | brk => exact oX_some.mpr h4
    | ret x => exact oX_some.mpr h4

/-- a loop over a range -/
theorem for_range {bind : List AV → AL → Option AL} {body : AL → AH → Option (AF × AL × AH)} {g : AH → Bool} {a c : Int} {n : Nat} (I : Nat → AL → AH → Prop)
    (step : ∀ i l H, i < n → I i l H → g H = true ∧ ∃ l₁, bind [AV.int (a + (i : Nat))] l = some l₁ ∧ oX (body l₁ H) fun f l' H' => match f with
      | .next => I (i + 1) l' H'
      | .brk => P .next l' H'
      | .ret x => P (.ret x) l' H')
    (done : ∀ l H, I n l H → g H = true ∧ P .next l H) (l : AL) (H : AH) (h : I 0 l H) (hn : (c - a).toNat = n) : oX (forIt bind body g (rangeL a c) l H) P := by
  unfold rangeL
  rw [hn]
  refine for_inv (fun vs l H => ∃ i, i ≤ n ∧ vs = ((List.range n).map fun (i : Nat) => [AV.int (a + i)]).drop i ∧ I i l H) ?_ ?_ _ _ _ ⟨0, Nat.zero_le _, rfl, h⟩
  · rintro v vs l H ⟨i, hi, hv, hI⟩
    have hlt : i < n := by
      have := congrArg List.length hv
      simp at this
      omega
    rw [List.drop_eq_getElem_cons (by simpa using hlt)] at hv
    injection hv with h1 h2
    obtain ⟨q1, l₁, q2, q3⟩ := step i l H hlt hI
    refine ⟨q1, l₁, by rw [h1]; simpa using q2, oX_mono q3 fun f l' H' z => ?_⟩
    cases f with
    | next => exact ⟨i + 1, hlt, h2, z⟩
    | brk => exact z
    | ret x => exact z
  · rintro l H ⟨i, hi, hv, hI⟩
    have : i = n := by
      have := congrArg List.length hv
      simp at this
      omega
    subst this
    exact done l H hI
theorem ev_comp {elt tg it : Expr} {ifs : List Expr} {sc : Scope} {R : AV → AH → Prop} (hok : compOk N sc = true)
    (h : oI (items E N l H tg it) fun vs g H₁ => ∃ H₂, compIt (bindK sc.names tg) (fun l H => tests E (compNames sc.names) l ifs H) (fun l H => E.e elt (compNames sc.names) l H) g H₁.length vs (compLocals sc.names l) (H₁ ++ [.list []]) = some H₂ ∧ R (.ref H₁.length) H₂) :
    oW (evComp E N l H elt tg it ifs sc) R := by
  obtain ⟨vs, g, H₁, h1, H₂, h2, r⟩ := h
  unfold evComp
  rw [if_pos hok, h1]
  dsimp only
  rw [h2]
  exact oW_some.mpr r
theorem set_at (H₀ : AH) (X Y : AO) (G : AH) : (H₀ ++ X :: G).set H₀.length Y = H₀ ++ Y :: G := by simp
theorem get_at (H₀ : AH) (X : AO) (G : AH) : (H₀ ++ X :: G)[H₀.length]? = some X := by simp
theorem listAt_at (H₀ : AH) (x : List AV) (G : AH) : listAt (H₀ ++ .list x :: G) H₀.length = some x := by
  unfold listAt
  rw [get_at]
  rfl
theorem compIt_yes {bind : List AV → AL → Option AL} {ok : AL → AH → Option (Bool × AH)} {elt : AL → AH → Option (AV × AH)} {g : AH → Bool} {D : Nat} {v : List AV} {vs : List (List AV)} {lc l₁ : AL} {H H₁ H₂ : AH} {x : AV} {y : List AV} (hg : g H = true) (h1 : bind v lc = some l₁) (h3 : ok l₁ H = some (true, H₁))
    (h5 : elt l₁ H₁ = some (x, H₂)) (hl : listAt H₂ D = some y) (hs : sizeOk (y.length + 1) = true) : compIt bind ok elt g D (v :: vs) lc H = compIt bind ok elt g D vs l₁ (H₂.set D (.list (y ++ [x]))) := by
  conv => lhs; unfold compIt
  simp only [hg, h1, h3, h5, hl, hs, if_true, Option.bind_some, obind]
theorem compIt_no {bind : List AV → AL → Option AL} {ok : AL → AH → Option (Bool × AH)} {elt : AL → AH → Option (AV × AH)} {g : AH → Bool} {D : Nat} {v : List AV} {vs : List (List AV)} {lc l₁ : AL} {H H₁ : AH} (hg : g H = true) (h1 : bind v lc = some l₁) (h3 : ok l₁ H = some (false, H₁)) :
    compIt bind ok elt g D (v :: vs) lc H = compIt bind ok elt g D vs l₁ H₁ := by
  conv => lhs; unfold compIt
  simp only [hg, h1, h3, if_true, Option.bind_some, obind, Bool.false_eq_true, if_false]
/-- a comprehension whose turns leave garbage behind the list -/
theorem comp_run {α : Type} {bind : List AV → AL → Option AL} {ok : AL → AH → Option (Bool × AH)} {elt : AL → AH → Option (AV × AH)} {g : AH → Bool} {H₀ : AH} (f : α → List AV) (J : AL → Prop) (pz : α → Bool) (F : α → AV) (hg : ∀ X G, g (H₀ ++ X :: G) = true) :
    ∀ (vs : List α) (acc : List AV) (lc : AL) (G : AH), J lc → acc.length + vs.length ≤ 1000000 →
      (∀ v ∈ vs, ∀ lc', J lc' → ∃ l₁, bind (f v) lc' = some l₁ ∧ J l₁ ∧ ∀ X G, ∃ G₁, ok l₁ (H₀ ++ X :: G) = some (pz v, H₀ ++ X :: G₁) ∧ (pz v = true → ∃ G₂, elt l₁ (H₀ ++ X :: G₁) = some (F v, H₀ ++ X :: G₂))) →
      ∃ G', compIt bind ok elt g H₀.length (vs.map f) lc (H₀ ++ .list acc :: G) = some (H₀ ++ .list (acc ++ (vs.filter pz).map F) :: G')
  | [], acc, lc, G, j, hz, _ => by
    refine ⟨G, ?_⟩
    rw [List.map_nil]
    unfold compIt
    rw [if_pos (hg _ _)]
    simp
  | v :: vs, acc, lc, G, j, hz, step => by
    obtain ⟨l₁, h1, j1, h2⟩ := step v (.head _) lc j
    obtain ⟨G₁, h3, h4⟩ := h2 (.list acc) G
    rw [List.map_cons]
    rw [List.length_cons] at hz
    cases hp : pz v with
    | true =>
      rw [hp] at h3
      obtain ⟨G₂, h5⟩ := h4 hp
      have hs : sizeOk (acc.length + 1) = true := size_le (by omega)
      rw [compIt_yes (hg _ _) h1 h3 h5 (listAt_at ..) hs, set_at]
      obtain ⟨G', h6⟩ := comp_run f J pz F hg vs (acc ++ [F v]) l₁ G₂ j1 (by simp; omega) fun u hu => step u (.tail _ hu)
      exact ⟨G', by rw [h6]; simp [hp]⟩
    | false =>
      rw [hp] at h3
      rw [compIt_no (hg _ _) h1 h3]
      obtain ⟨G', h6⟩ := comp_run f J pz F hg vs acc l₁ G₁ j1 (by omega) fun u hu => step u (.tail _ hu)
      exact ⟨G', by rw [h6]; simp [hp]⟩
/-- a comprehension whose turns make nothing -/
theorem comp_pure {α : Type} {bind : List AV → AL → Option AL} {ok : AL → AH → Option (Bool × AH)} {elt : AL → AH → Option (AV × AH)} {g : AH → Bool} {H₀ : AH} (f : α → List AV) (J : AL → Prop) (pz : α → Bool) (F : α → AV) (hg : ∀ X, g (H₀ ++ [X]) = true) :
    ∀ (vs : List α) (acc : List AV) (lc : AL), J lc → acc.length + vs.length ≤ 1000000 →
      (∀ v ∈ vs, ∀ lc', J lc' → ∃ l₁, bind (f v) lc' = some l₁ ∧ J l₁ ∧ ∀ X, ok l₁ (H₀ ++ [X]) = some (pz v, H₀ ++ [X]) ∧ (pz v = true → elt l₁ (H₀ ++ [X]) = some (F v, H₀ ++ [X]))) →
      compIt bind ok elt g H₀.length (vs.map f) lc (H₀ ++ [.list acc]) = some (H₀ ++ [.list (acc ++ (vs.filter pz).map F)])
  | [], acc, lc, j, hz, _ => by
    rw [List.map_nil]
    unfold compIt
    rw [if_pos (hg _)]
    simp
  | v :: vs, acc, lc, j, hz, step => by
    obtain ⟨l₁, h1, j1, h2⟩ := step v (.head _) lc j
    obtain ⟨h3, h4⟩ := h2 (.list acc)
    rw [List.map_cons]
    rw [List.length_cons] at hz
    cases hp : pz v with
    | true =>
      rw [hp] at h3
      have hs : sizeOk (acc.length + 1) = true := size_le (by omega)
      rw [compIt_yes (hg _) h1 h3 (h4 hp) (listAt_at ..) hs, set_at]
      have h6 := comp_pure f J pz F hg vs (acc ++ [F v]) l₁ j1 (by simp; omega) fun u hu => step u (.tail _ hu)
      rw [h6]; simp [hp]
    | false =>
      rw [hp] at h3
      rw [compIt_no (hg _) h1 h3]
      have h6 := comp_pure f J pz F hg vs acc l₁ j1 (by omega) fun u hu => step u (.tail _ hu)
      rw [h6]; simp [hp]
theorem comp_map {α : Type} {bind : List AV → AL → Option AL} {ok : AL → AH → Option (Bool × AH)} {elt : AL → AH → Option (AV × AH)} {g : AH → Bool} {H₀ : AH} (f : α → List AV) (J : AL → Prop) (F : α → AV) (hg : ∀ X, g (H₀ ++ [X]) = true)
    (vs : List α) (lc : AL) (j : J lc) (hz : vs.length ≤ 1000000)
    (step : ∀ v ∈ vs, ∀ lc', J lc' → ∃ l₁, bind (f v) lc' = some l₁ ∧ J l₁ ∧ ∀ X, ok l₁ (H₀ ++ [X]) = some (true, H₀ ++ [X]) ∧ elt l₁ (H₀ ++ [X]) = some (F v, H₀ ++ [X])) :
    compIt bind ok elt g H₀.length (vs.map f) lc (H₀ ++ [.list []]) = some (H₀ ++ [.list (vs.map F)]) := by
  have h := comp_pure f J (fun _ => true) F hg vs [] lc j (by simpa using hz) fun v hv lc' j' => let ⟨l₁, a, b, c⟩ := step v hv lc' j'; ⟨l₁, a, b, fun X => ⟨(c X).1, fun _ => (c X).2⟩⟩
  rw [h, List.nil_append, List.filter_eq_self.mpr (fun _ _ => rfl)]
theorem comp_mapG {α : Type} {bind : List AV → AL → Option AL} {ok : AL → AH → Option (Bool × AH)} {elt : AL → AH → Option (AV × AH)} {g : AH → Bool} {H₀ : AH} (f : α → List AV) (J : AL → Prop) (F : α → AV) (hg : ∀ X G, g (H₀ ++ X :: G) = true)
    (vs : List α) (lc : AL) (j : J lc) (hz : vs.length ≤ 1000000)
    (step : ∀ v ∈ vs, ∀ lc', J lc' → ∃ l₁, bind (f v) lc' = some l₁ ∧ J l₁ ∧ ∀ X G, ok l₁ (H₀ ++ X :: G) = some (true, H₀ ++ X :: G) ∧ ∃ G₂, elt l₁ (H₀ ++ X :: G) = some (F v, H₀ ++ X :: G₂)) :
    ∃ G', compIt bind ok elt g H₀.length (vs.map f) lc (H₀ ++ [.list []]) = some (H₀ ++ .list (vs.map F) :: G') := by
  obtain ⟨G', h⟩ := comp_run f J (fun _ => true) F hg vs [] lc [] j (by simpa using hz) fun v hv lc' j' => let ⟨l₁, a, b, c⟩ := step v hv lc' j'; ⟨l₁, a, b, fun X G => ⟨G, (c X G).1, fun _ => (c X G).2⟩⟩
  exact ⟨G', by rw [h, List.nil_append, List.filter_eq_self.mpr (fun _ _ => rfl)]⟩

/-- a call of a def -/
theorem call_of {f : Str} {bd body : List Stmt} {as : List AV} {ps : List Str} {R : AV → AH → Prop} (hd : defOf f bd = some (ps, body, N)) (hl : ps.length = as.length) (hc : (decide ps.Nodup && ps.all (isVar N)) = true)
    (h : oX (E.x body N (bindAll ps as) H) fun fl _ H' => match fl with | .ret v => R v H' | .next => R .none H' | .brk => False) : oW (callBy E bd f as H) R := by
  obtain ⟨fl, l', H', e, r⟩ := h
  simp only [Bool.and_eq_true, decide_eq_true_eq] at hc
  unfold callBy
  rw [hd]
  dsimp only
  rw [if_pos ⟨hl, hc.1, hc.2⟩, e]
  cases fl with
  | ret v => exact oW_some.mpr r
  | next => exact oW_some.mpr r
  | brk => exact r.elim
end
end Mine.L
end
section
/-! Operators, as equations. -/
namespace Mine.L
open PySem
set_option maxRecDepth 100000
noncomputable def minI (x y : Int) : Int := if y < x then y else x
noncomputable def maxI (x y : Int) : Int := if x < y then y else x
section
variable {H : AH} {x y i j : Int} {k m : Nat} {s t : Str} {a c : UInt64} {p q : Bool}
@[scoped simp] theorem add_i : binop .Add (.int x) (.int y) H = some (.int (x + y), H) := rfl
@[scoped simp] theorem sub_i : binop .Sub (.int x) (.int y) H = some (.int (x - y), H) := rfl
@[scoped simp] theorem mul_i : binop .Mult (.int x) (.int y) H = if small x || small y then some (.int (x * y), H) else none := rfl
@[scoped simp] theorem fdiv_i : binop .FloorDiv (.int x) (.int y) H = if small y && y != 0 then some (.int (x.fdiv y), H) else none := rfl
@[scoped simp] theorem mod_i : binop .Mod (.int x) (.int y) H = if y != 0 then some (.int (x.fmod y), H) else none := rfl
@[scoped simp] theorem add_s : binop .Add (.str s) (.str t) H = if sizeOk (s.length + t.length) then some (.str (s ++ t), H) else none := rfl
@[scoped simp] theorem mul_s : binop .Mult (.str s) (.int x) H = if sizeOk (s.length * x.toNat) && small x then some (.str (mulS s x), H) else none := rfl
@[scoped simp] theorem add_l : binop .Add (.ref k) (.ref m) H = (listAt H k).bind fun x => (listAt H m).bind fun y => if sizeOk (x.length + y.length) then some (.ref H.length, H ++ [.list (x ++ y)]) else none := rfl
@[scoped simp] theorem mul_l : binop .Mult (.ref k) (.int x) H = (listAt H k).bind fun z => if sizeOk (z.length * x.toNat) && small x then some (.ref H.length, H ++ [.list (List.replicate x.toNat z).flatten]) else none := rfl
@[scoped simp] theorem add_f : binop .Add (.flt a) (.flt c) H = some (.flt (Float64.add a c), H) := rfl
@[scoped simp] theorem sub_f : binop .Sub (.flt a) (.flt c) H = some (.flt (Float64.sub a c), H) := rfl
@[scoped simp] theorem mul_f : binop .Mult (.flt a) (.flt c) H = some (.flt (Float64.mul a c), H) := rfl
theorem sub_fi : binop .Sub (.flt a) (.int x) H = if Float64.isInf (Float64.ofInt x) then none else some (.flt (Float64.sub a (Float64.ofInt x)), H) := rfl
@[scoped simp] theorem eq_i : cmpop .Eq (.int x) (.int y) H = some (x == y) := rfl
@[scoped simp] theorem ne_i : cmpop .NotEq (.int x) (.int y) H = some (x != y) := rfl
@[scoped simp] theorem lt_i : cmpop .Lt (.int x) (.int y) H = some (decide (x < y)) := rfl
@[scoped simp] theorem le_i : cmpop .LtE (.int x) (.int y) H = some (decide (x ≤ y)) := rfl
@[scoped simp] theorem gt_i : cmpop .Gt (.int x) (.int y) H = some (decide (y < x)) := rfl
@[scoped simp] theorem ge_i : cmpop .GtE (.int x) (.int y) H = some (decide (y ≤ x)) := rfl
@[scoped simp] theorem eq_s : cmpop .Eq (.str s) (.str t) H = some (s == t) := rfl
@[scoped simp] theorem ne_s : cmpop .NotEq (.str s) (.str t) H = some (s != t) := rfl
@[scoped simp] theorem eq_b : cmpop .Eq (.bool p) (.bool q) H = some (p == q) := rfl
@[scoped simp] theorem ne_b : cmpop .NotEq (.bool p) (.bool q) H = some (p != q) := rfl
@[scoped simp] theorem eq_f : cmpop .Eq (.flt a) (.flt c) H = some (Float64.cmp a c == some Ordering.eq) := rfl
@[scoped simp] theorem is_nn : cmpop .Is .none .none H = some true := rfl
@[scoped simp] theorem is_in : cmpop .Is (.int x) .none H = some false := rfl
@[scoped simp] theorem is_b : cmpop .Is (.bool p) (.bool q) H = some (p == q) := rfl
@[scoped simp] theorem isnot_b : cmpop .IsNot (.bool p) (.bool q) H = some (!(p == q)) := rfl
@[scoped simp] theorem in_s : cmpop .In (.str t) (.str s) H = some (!(Builtin.Str.occurrences s t 0 s.length 1).isEmpty) := rfl
@[scoped simp] theorem notin_s : cmpop .NotIn (.str t) (.str s) H = some (!(!(Builtin.Str.occurrences s t 0 s.length 1).isEmpty)) := rfl
@[scoped simp] theorem get_r : getItem (.ref k) (.int i) H = if small i then getRef H k i else none := rfl
@[scoped simp] theorem get_s : getItem (.str s) (.int i) H = if small i then ((seqIndex? i s.length).bind (s.cps[·]?)).map fun c => (AV.str ⟨#[c]⟩, H) else none := rfl
@[scoped simp] theorem bi_len_s (h : sizeOk s.length = true) : builtin "len" [.str s] H = some (.int s.length, H) := if_pos h
@[scoped simp] theorem bi_len_r : builtin "len" [.ref k] H = lenB H (.ref k) := rfl
@[scoped simp] theorem bi_max2 : builtin "max" [.int x, .int y] H = some (.int (maxI x y), H) := by
  unfold builtin
  rw [if_neg (by decide +kernel), if_pos rfl]
  rfl
@[scoped simp] theorem bi_min2 : builtin "min" [.int x, .int y] H = some (.int (minI x y), H) := by
  unfold builtin
  rw [if_neg (by decide +kernel), if_neg (by decide +kernel), if_pos rfl]
  rfl
@[scoped simp] theorem bi_max1 : builtin "max" [.ref k] H = ((listAt H k).bind ints?).bind fun l => (mostL l).map fun m => (AV.int m, H) := by
  unfold builtin
  rw [if_neg (by decide +kernel), if_pos rfl]
  rfl
@[scoped simp] theorem mostL_cons {r : List Int} : mostL (x :: r) = some (most x r) := rfl
@[scoped simp] theorem bi_sum : builtin "sum" [.ref k] H = ((listAt H k).bind ints?).map fun l => (AV.int (total l), H) := by
  unfold builtin
  rw [if_neg (by decide +kernel), if_neg (by decide +kernel), if_neg (by decide +kernel), if_neg (by decide +kernel), if_pos rfl]
  rfl
@[scoped simp] theorem bi_int : builtin "int" [.flt a] H = (truncV a).map fun i => (AV.int i, H) := by
  unfold builtin
  rw [if_neg (by decide +kernel), if_neg (by decide +kernel), if_neg (by decide +kernel), if_pos rfl]
  rfl
@[scoped simp] theorem bi_tuple : builtin "tuple" [.ref k] H = (listAt H k).bind fun l => if sizeOk l.length then some (AV.ref H.length, H ++ [.tup l]) else none := by
  unfold builtin
  rw [if_neg (by decide +kernel), if_neg (by decide +kernel), if_neg (by decide +kernel), if_neg (by decide +kernel), if_neg (by decide +kernel), if_pos rfl]
  rfl
@[scoped simp] theorem getRef_is : getRef H k i = getO H i H[k]? := rfl
@[scoped simp] theorem getO_list {l : List AV} (hc : 0 ≤ i) : getO H i (some (.list l)) = (l[i.toNat]?).map (·, H) := if_pos hc
@[scoped simp] theorem getO_tup {l : List AV} (hc : 0 ≤ i) : getO H i (some (.tup l)) = (l[i.toNat]?).map (·, H) := if_pos hc
@[scoped simp] theorem getO_dict {l : List (Int × Int)} : getO H i (some (.dict l)) = (l.lookup i).map fun v => (AV.int v, H) := rfl
@[scoped simp] theorem lenB_ref : lenB H (.ref k) = lenO H H[k]? := rfl
@[scoped simp] theorem lenO_list {l : List AV} (hc : (sizeOk l.length) = true) : lenO H (some (.list l)) = some (.int l.length, H) := if_pos hc
@[scoped simp] theorem lenO_tup {l : List AV} (hc : (sizeOk l.length) = true) : lenO H (some (.tup l)) = some (.int l.length, H) := if_pos hc
theorem listAt_of {l : List AV} (h : H[k]? = some (.list l)) : listAt H k = some l := by unfold listAt; rw [h]; rfl
theorem tupAt_of {l : List AV} (h : H[k]? = some (.tup l)) : tupAt H k = some l := by unfold tupAt; rw [h]; rfl
theorem dictAt_of {l : List (Int × Int)} (h : H[k]? = some (.dict l)) : dictAt H k = some l := by unfold dictAt; rw [h]; rfl
@[scoped simp] theorem listO_list {l : List AV} : listO (some (.list l)) = some l := rfl
@[scoped simp] theorem tupO_tup {l : List AV} : tupO (some (.tup l)) = some l := rfl
@[scoped simp] theorem instO_inst {d : Nat} : instO (some (.inst d)) = some d := rfl
@[scoped simp] theorem attrsO_attrs {l : List (Str × AV)} : attrsO (some (.attrs l)) = some l := rfl
@[scoped simp] theorem instAt_is : instAt H k = instO H[k]? := rfl
@[scoped simp] theorem attrsAt_is : attrsAt H k = attrsO H[k]? := rfl
section
variable {E : Evs} {f : Str} {as : List AV} {v : AV} {l l' : AL} {N : Names} {ns : List Int} {lo hi st : Option Int} {p q' : Pos} {y z : Str} {e : Expr}
@[scoped simp] theorem method_str : method E (.str s) f as H = if f = "join" ∧ s.length = 0 then onOne as fun a => onRef a fun k => ((listAt H k).bind strs?).bind fun xs => if sizeOk (sumLen xs) = true then some (AV.str (joinS xs), H) else none else none := rfl
@[scoped simp] theorem method_ref : method E (.ref k) f as H = methodO E k f as H H[k]? := rfl
@[scoped simp] theorem methodO_list {x : List AV} : methodO E k f as H (some (.list x)) = if f = "append" then (onOne as fun v => if sizeOk (x.length + 1) = true then some (AV.none, H.set k (.list (x ++ [v]))) else none) else none := rfl
@[scoped simp] theorem methodO_dict {x : List (Int × Int)} : methodO E k f as H (some (.dict x)) = if f = "get" then (onTwo as fun a b => onInt a fun i => onInt b fun d => some (AV.int ((x.lookup i).getD d), H)) else none := rfl
@[scoped simp] theorem methodO_inst {d : Nat} : methodO E k f as H (some (.inst d)) = E.meth f (.ref k :: as) H := rfl
@[scoped simp] theorem sameKind_ref {H' : AH} : sameKind (.ref k) H H' = sameO H H[k]? H'[k]? := rfl
@[scoped simp] theorem sameKind_str {H' : AH} : sameKind (.str s) H H' = true := Eq.trans rfl rfl
@[scoped simp] theorem sameO_ll {a c : List AV} : sameO H (some (.list a)) (some (.list c)) = true := Eq.trans rfl rfl
@[scoped simp] theorem sameO_dd {a c : List (Int × Int)} : sameO H (some (.dict a)) (some (.dict c)) = true := Eq.trans rfl rfl
@[scoped simp] theorem sameO_ii {a c : Nat} : sameO H (some (.inst a)) (some (.inst c)) = (a == c && isAttrs H a) := Eq.trans rfl rfl
@[scoped simp] theorem partOf_none : partOf none = some none := rfl
@[scoped simp] theorem partOf_int : partOf (some (.int i)) = some (some i) := rfl
@[scoped simp] theorem sliced_scr : slicedV ns .scr lo hi st H = alloc H (.list (pickL (ns.map .int) lo hi st)) := rfl
@[scoped simp] theorem sliced_ref : slicedV ns (.ref k) lo hi st H = (listAt H k).bind fun l => if sizeOk l.length = true then alloc H (.list (pickL l lo hi st)) else none := rfl
@[scoped simp] theorem sliced_str : slicedV ns (.str s) lo hi st H = if sizeOk s.length = true then some (.str (pickS s lo hi st), H) else none := rfl
@[scoped simp] theorem getSlice_is {a : AV} {lo hi st : Option AV} : getSlice ns a lo hi st H = (partOf lo).bind fun lo => (partOf hi).bind fun hi => (partOf st).bind fun st => if st ≠ some 0 then slicedV ns a lo hi st H else none := rfl
@[scoped simp] theorem tests_nil : tests E N l [] H = some (true, H) := rfl
@[scoped simp] theorem tests_one {c : Expr} : tests E N l [c] H = test E N l c H := rfl
@[scoped simp] theorem assign1_attr : assign1 E N (.Attribute (.Name y p) f q') v l H = if (isVar N y && isField f) = true then assignA y f v l H else none := rfl
@[scoped simp] theorem assign1_sub : assign1 E N (.Subscript (.Name y p) e q') v l H = if isVar N y = true then (l y).bind fun w => onRef w fun k => obind (E.e e N l H) fun u H₁ => onInt u fun j => assignI k j v l H₁ else none := rfl
@[scoped simp] theorem assign1_tup {ts : List Expr} {n : Nat} : assign1 E N (.Tuple ts n p) v l H = onRef v fun k => (tupAt H k).bind fun xs => (assignT N ts xs l).map (·, H) := rfl
@[scoped simp] theorem assignT_two {a c : AV} {p p' : Pos} (hc : (isVar N y && isVar N z) = true) : assignT N [.Name y p, .Name z p'] [a, c] l = some (put (put l y a) z c) := if_pos hc
@[scoped simp] theorem assignT_three {a c d : AV} {w : Str} {p p' p'' : Pos} (hc : (isVar N y && isVar N z && isVar N w) = true) : assignT N [.Name y p, .Name z p', .Name w p''] [a, c, d] l = some (put (put (put l y a) z c) w d) := if_pos hc
@[scoped simp] theorem assignA_is {c : Str} : assignA c f v l H = (l c).bind fun o => onRef o fun k => (instAt H k).bind fun d => (attrsAt H d).bind fun fs => if fs.length < 100 then some (l, H.set d (.attrs (setAttr f v fs))) else none := rfl
noncomputable def assignO (k : Nat) (j : Int) (v : AV) (l : AL) (H₁ : AH) (o : Option AO) : Option (AL × AH) := match o with
  | some (.list x) => if (decide (0 ≤ j) && decide (j.toNat < x.length) && small j) = true then some (l, H₁.set k (.list (x.set j.toNat v))) else Option.none
  | some (.dict x) => onInt v fun y => if sizeOk (x.length + 1) = true then some (l, H₁.set k (.dict (putD j y x))) else Option.none
  | some (.tup _) => Option.none
  | some (.inst _) => Option.none
  | some (.attrs _) => Option.none
  | Option.none => Option.none
@[scoped simp] theorem assignI_is : assignI k j v l H = assignO k j v l H H[k]? := rfl
@[scoped simp] theorem assignO_list {x : List AV} (hc : (decide (0 ≤ j) && decide (j.toNat < x.length) && small j) = true) : assignO k j v l H (some (.list x)) = some (l, H.set k (.list (x.set j.toNat v))) := if_pos hc
@[scoped simp] theorem assignO_dict {x : List (Int × Int)} : assignO k j v l H (some (.dict x)) = onInt v fun y => if sizeOk (x.length + 1) = true then some (l, H.set k (.dict (putD j y x))) else none := rfl
@[scoped simp] theorem okTarget_name : okTarget (.Name y p) = true := Eq.trans rfl rfl
@[scoped simp] theorem okTarget_attr {o : Expr} : okTarget (.Attribute o f p) = true := Eq.trans rfl rfl
@[scoped simp] theorem okTarget_sub {a c : Expr} : okTarget (.Subscript a c p) = true := Eq.trans rfl rfl
@[scoped simp] theorem okTarget_tup {ts : List Expr} {n : Nat} : okTarget (.Tuple ts n p) = true := Eq.trans rfl rfl
@[scoped simp] theorem pairT_name : isPairTarget (.Name y p) = false := Eq.trans rfl rfl
@[scoped simp] theorem pairT_attr {o : Expr} : isPairTarget (.Attribute o f p) = false := Eq.trans rfl rfl
@[scoped simp] theorem pairT_sub {a c : Expr} : isPairTarget (.Subscript a c p) = false := Eq.trans rfl rfl
@[scoped simp] theorem pairT_tup {ts : List Expr} {n : Nat} : isPairTarget (.Tuple ts n p) = true := Eq.trans rfl rfl
@[scoped simp] theorem pairT_call {g : Expr} {es : List Expr} {ks : List Keyword} : isPairTarget (.Call g es ks p) = false := Eq.trans rfl rfl
@[scoped simp] theorem pairT_bin {a c : Expr} {op : Operator} : isPairTarget (.BinOp a op c p) = false := Eq.trans rfl rfl
@[scoped simp] theorem pairT_const {c : Const} {n : Nat} : isPairTarget (.Constant c n p) = false := Eq.trans rfl rfl
@[scoped simp] theorem pairT_cmp {a : Expr} {ops : List CmpOp} {cs : List Expr} : isPairTarget (.Compare a ops cs p) = false := Eq.trans rfl rfl
@[scoped simp] theorem pairT_list {ts : List Expr} : isPairTarget (.List ts p) = false := Eq.trans rfl rfl
@[scoped simp] theorem pairT_dict {a : List (Option Expr)} {c : List Expr} : isPairTarget (.Dict a c p) = false := Eq.trans rfl rfl
@[scoped simp] theorem pairT_ifexp {a c d : Expr} : isPairTarget (.IfExp a c d p) = false := Eq.trans rfl rfl
/-- one name takes a value -/
@[scoped simp high] theorem exS_name {q : Pos} (h : noComp e = true) (hx : isVar N y = true) : exS E (.Assign [.Name y q] e p) N l H = obind (E.e e N l H) fun v H₁ => some (.next, put l y v, H₁) := by
  rw [exS_assign (by unfold storesOk; rw [h]; simp)]
  congr 1
  funext v H₁
  show asgn (obind (assign1 E N (.Name y q) v l H₁) fun l' H' => some (l', H')) = _
  rw [assign_name hx]
  rfl
end
@[scoped simp] theorem eqV_ii {n : Nat} : eqV n H (.int x) (.int y) = some (x == y) := by cases n <;> rfl
@[scoped simp] theorem eqV_ss {n : Nat} : eqV n H (.str s) (.str t) = some (s == t) := by cases n <;> rfl
theorem eqV_rr {n : Nat} : eqV (n + 1) H (.ref k) (.ref m) = eqR (eqV n H) H k m := rfl
theorem eqR_ll {f : AV → AV → Option Bool} {a c : List AV} (h1 : H[k]? = some (.list a)) (h2 : H[m]? = some (.list c)) : eqR f H k m = eqs f a c := by
  unfold eqR
  rw [listAt_of h1, listAt_of h2]
  rfl
theorem eqR_tt {f : AV → AV → Option Bool} {a c : List AV} (h1 : H[k]? = some (.tup a)) (h2 : H[m]? = some (.tup c)) : eqR f H k m = eqs f a c := by
  unfold eqR
  rw [tupAt_of h1, tupAt_of h2, show listAt H k = none by unfold listAt; rw [h1]; rfl]
  rfl
theorem isB1 : isBuiltin "len" = true ∧ isBuiltin "max" = true ∧ isBuiltin "min" = true ∧ isBuiltin "int" = true ∧ isBuiltin "sum" = true ∧ isBuiltin "tuple" = true := by decide +kernel
@[scoped simp] theorem isB_len : isBuiltin "len" = true := isB1.1
@[scoped simp] theorem isB_max : isBuiltin "max" = true := isB1.2.1
@[scoped simp] theorem isB_min : isBuiltin "min" = true := isB1.2.2.1
@[scoped simp] theorem isB_int : isBuiltin "int" = true := isB1.2.2.2.1
@[scoped simp] theorem isB_sum : isBuiltin "sum" = true := isB1.2.2.2.2.1
@[scoped simp] theorem isB_tuple : isBuiltin "tuple" = true := isB1.2.2.2.2.2
@[scoped simp] theorem ints_map (l : List Int) : ints? (l.map AV.int) = some l := by
  induction l with
  | nil => rfl
  | cons a r ih => simp [ints?, ih]
@[scoped simp] theorem strs_map (l : List Str) : strs? (l.map AV.str) = some l := by
  induction l with
  | nil => rfl
  | cons a r ih => simp [strs?, ih]
@[scoped simp] theorem strs_snoc (l : List Str) (y : Str) : strs? (l.map AV.str ++ [AV.str y]) = some (l ++ [y]) := by
  have := strs_map (l ++ [y])
  rwa [List.map_append] at this
theorem get_lt {H : AH} {k : Nat} {o : AO} (h : H[k]? = some o) : k < H.length := (List.getElem?_eq_some_iff.mp h).1
theorem get_app {H G : AH} {k : Nat} {o : AO} (h : H[k]? = some o) : (H ++ G)[k]? = some o := by rw [List.getElem?_append_left (get_lt h)]; exact h
theorem omap_map {o : Option Bool} {H : AH} : omap o H = o.map (·, H) := rfl

@[scoped simp] theorem get_len0 {X L : AH} : (X ++ L)[X.length]? = L[0]? := by rw [List.getElem?_append_right (Nat.le_refl _)]; simp
@[scoped simp] theorem get_lenS {X L : AH} {i : Nat} : (X ++ L)[X.length + i]? = L[i]? := by rw [List.getElem?_append_right (Nat.le_add_right ..)]; simp
theorem pre_app {H X L : AH} (h : H <+: X) : H <+: X ++ L := h.trans (List.prefix_append ..)
theorem pre_at {H X : AH} (h : H <+: X) {k : Nat} {o : AO} (e : H[k]? = some o) : X[k]? = some o := by
  obtain ⟨L, rfl⟩ := h
  exact get_app e
theorem app_get {X L : AH} {k : Nat} (h : k < X.length) : (X ++ L)[k]? = X[k]? := List.getElem?_append_left h

@[scoped simp] theorem len_empty : (Str.ofString "").length = 0 := by decide +kernel
end
end Mine.L
end
section
/-! Slices. -/
namespace Mine.L
open PySem
set_option maxRecDepth 100000
theorem pick_range {α : Type} (l : List α) (a : Nat) : ∀ m, ((List.range m).map (a + ·)).filterMap (l[·]?) = (l.drop a).take m
  | 0 => by simp
  | m + 1 => by
    rw [List.range_succ, List.map_append, List.filterMap_append, pick_range l a m, List.take_add_one]
    simp only [List.map_cons, List.map_nil, List.filterMap_cons, List.filterMap_nil, List.getElem?_drop]
    cases l[a + m]? <;> rfl
theorem pickL_drop {α : Type} (l : List α) (k : Nat) : pickL l (some (k : Int)) none none = l.drop k := by
  unfold pickL
  rw [sliceBounds_plain]
  simp only [Option.elim_some, Option.elim_none]
  rw [sliceRange_one, pick_range, clipAt_nat]
  by_cases h : k ≤ l.length
  · rw [Nat.min_eq_left h]
    exact List.take_of_length_le (by simp)
  · rw [Nat.min_eq_right (by omega), List.drop_of_length_le (Nat.le_refl _), List.drop_of_length_le (by omega)]; simp
theorem pickL_take {α : Type} (l : List α) (k : Nat) : pickL l none (some (k : Int)) none = l.take k := by
  unfold pickL
  rw [sliceBounds_plain]
  simp only [Option.elim_some, Option.elim_none]
  rw [sliceRange_one, pick_range, clipAt_nat]
  rw [List.drop_zero, Nat.sub_zero]
  by_cases h : k ≤ l.length
  · rw [Nat.min_eq_left h]
  · rw [Nat.min_eq_right (by omega), List.take_of_length_le (Nat.le_refl _), List.take_of_length_le (by omega)]
theorem pickL_map {α β : Type} (f : α → β) (l : List α) (lo hi st : Option Int) : pickL (l.map f) lo hi st = (pickL l lo hi st).map f := by
  unfold pickL
  rw [List.length_map, List.map_filterMap]
  congr 1
  funext i
  rw [List.getElem?_map]
theorem idx_all {n : Nat} {a b : Nat} (h : ((List.range (b - a)).map (a + ·)).length = n) (hab : a ≤ b) (hb : b ≤ n) : a = 0 ∧ b = n := by
  simp at h; omega
theorem pickS_mid (s : Str) {a b : Nat} (hab : a ≤ b) (hb : b ≤ s.length) : pickS s (some (a : Int)) (some (b : Int)) none = ⟨((s.cps.toList.drop a).take (b - a)).toArray⟩ := by
  unfold pickS
  have e : (none : Option Int).getD 1 = 1 := rfl
  rw [e, StrLaws.sliced_plain s hab hb]
  split
  · rename_i h
    rw [Bool.and_eq_true, beq_iff_eq, beq_iff_eq, StrLaws.strSliceIndices_plain hab hb] at h
    obtain ⟨rfl, rfl⟩ := idx_all h.2 hab hb
    have : (s.cps.toList.drop 0).take (s.length - 0) = s.cps.toList := by
      rw [List.drop_zero]
      exact List.take_of_length_le (by simp [Str.length])
    rw [this]
  · rfl
theorem pickS_from (s : Str) {a : Nat} (ha : a ≤ s.length) : pickS s (some (a : Int)) none none = ⟨(s.cps.toList.drop a).toArray⟩ := by
  have h := pickS_mid s ha (Nat.le_refl _)
  have e : pickS s (some (a : Int)) none none = pickS s (some (a : Int)) (some (s.length : Int)) none := by
    unfold pickS
    rw [show (none : Option Int).getD 1 = 1 from rfl, StrLaws.sliceIdx_none_hi]
  rw [e, h]
  congr 2
  exact List.take_of_length_le (by simp [Str.length])
end Mine.L
end
section
/-! Steps that the kernel takes alone. -/
namespace Mine.L
open PySem
set_option maxRecDepth 100000

noncomputable def KD (_ _ : Prop) : Prop := True
noncomputable def KR (p _ : Prop) : Prop := p
noncomputable def KT (p q : Prop) : Prop := KD p q → KR p q
theorem kOut {p q : Prop} (h : KR p q) : p := h
theorem kF {p q : Prop} (F : p → Prop) (hF : F = fun _ => q) : KD p q := trivial
theorem kk {p q : Prop} (hk : p = q) (g : q) : KR p q := hk.mpr g
noncomputable def xthen (o : Option (AF × AL × AH)) (k : AL → AH → Option (AF × AL × AH)) : Option (AF × AL × AH) := match o with
  | some (.next, l', H') => k l' H'
  | some (f, l', H') => some (f, l', H')
  | Option.none => Option.none
section
variable {E : Evs} {N : Names} {l : AL} {H : AH} {P : AF → AL → AH → Prop} {α : Type} {k : AL → AH → Option (AF × AL × AH)}
noncomputable def selB {β : Type} (q : Bool) (a c : β) : β := if q = true then a else c
theorem selB_t {β : Type} {a c : β} : selB true a c = a := rfl
theorem selB_f {β : Type} {a c : β} : selB false a c = c := rfl
theorem exS_ifK {t : Expr} {a c : List Stmt} {p : Pos} : exS E (.If t a c p) N l H = obind (cond E N l t H) fun q H₁ => selB q (E.x a N l H₁) (E.x c N l H₁) := rfl
theorem xsel_pos {q : Prop} [Decidable q] {A B : Option (AF × AL × AH)} (h : q) (g : oX (xthen A k) P) : oX (xthen (selB (decide q) A B) k) P := by rw [decide_eq_true h]; exact g
theorem xsel_neg {q : Prop} [Decidable q] {A B : Option (AF × AL × AH)} (h : ¬ q) (g : oX (xthen B k) P) : oX (xthen (selB (decide q) A B) k) P := by rw [decide_eq_false h]; exact g
theorem exL_x {s : Stmt} {r : List Stmt} : exL E N (s :: r) l H = xthen (exS E s N l H) fun l H => exL E N r l H := rfl
theorem exL_e : exL E N [] l H = some (.next, l, H) := rfl
theorem xthen_next : xthen (some (.next, l, H)) k = k l H := rfl
theorem xthen_ret {v : AV} : xthen (some (.ret v, l, H)) k = some (.ret v, l, H) := rfl
theorem xthen_brk : xthen (some (.brk, l, H)) k = some (.brk, l, H) := rfl
theorem ox_bind {o : Option (α × AH)} {f : α → AH → Option (AF × AL × AH)} : oX (xthen (obind o f) k) P ↔ oW o fun v H => oX (xthen (f v H) k) P := by
  rw [← oX_bind]
  cases o <;> rfl
theorem ox_bindI {o : Option (α × AH)} {f : α → AH → Option (AF × AL × AH)} (h : oW o fun v H => oX (xthen (f v H) k) P) : oX (xthen (obind o f) k) P := ox_bind.mpr h
theorem oW_bindI {β : Type} {o : Option (α × AH)} {f : α → AH → Option (β × AH)} {Q : β → AH → Prop} (h : oW o fun v H => oW (f v H) Q) : oW (obind o f) Q := oW_bind.mpr h
theorem oW_someI {v : α} {Q : α → AH → Prop} (h : Q v H) : oW (some (v, H)) Q := oW_some.mpr h
theorem at_ {β : Type} {a c : β} (M : β → Prop) (h : a = c) (g : M c) : M a := h ▸ g
theorem xsel_eq {x y : Int} {A B : Option (AF × AL × AH)} (h : x = y) (g : oX (xthen A k) P) : oX (xthen (selB (x == y) A B) k) P := by rw [beq_iff_eq.mpr h]; exact g
theorem xsel_ne {x y : Int} {A B : Option (AF × AL × AH)} (h : ¬ x = y) (g : oX (xthen B k) P) : oX (xthen (selB (x == y) A B) k) P := by rw [beq_eq_false_iff_ne.mpr h]; exact g
theorem ox_nil (h : P .next l H) : oX (some (.next, l, H)) P := ⟨_, _, _, rfl, h⟩
theorem ox_brk (h : P .brk l H) : oX (some (.brk, l, H)) P := ⟨_, _, _, rfl, h⟩
theorem ox_ret {v : AV} (h : P (.ret v) l H) : oX (some (.ret v, l, H)) P := ⟨_, _, _, rfl, h⟩
end
noncomputable def Has (l : AL) : List (Str × AV) → Prop
  | [] => True
  | p :: r => l p.1 = some p.2 ∧ Has l r
noncomputable def puts (l : AL) : List (Str × AV) → AL
  | [] => l
  | p :: r => put (puts l r) p.1 p.2
theorem puts_nil {l : AL} : puts l [] = l := rfl
theorem puts_cons {l : AL} {x : Str} {v : AV} {r : List (Str × AV)} : puts l ((x, v) :: r) = put (puts l r) x v := rfl
theorem puts_eq {l : AL} : ∀ L, Has l L → l = puts l L
  | [], _ => rfl
  | p :: r, h => by
    funext y
    show l y = if y = p.1 then some p.2 else puts l r y
    by_cases hy : y = p.1
    · rw [if_pos hy, hy]; exact h.1
    · rw [if_neg hy, ← puts_eq r h.2]
theorem for_K {bind : List AV → AL → Option AL} {body : AL → AH → Option (AF × AL × AH)} {g : AH → Bool} {P : AF → AL → AH → Prop} (I : List (List AV) → AL → AH → Prop)
    (step : ∀ v vs l H, I (v :: vs) l H → g H = true ∧ ∃ l₁, bind v l = some l₁ ∧ ∀ P' : AF → AL → AH → Prop, (∀ l' H', I vs l' H' → P' .next l' H') → (∀ l' H', P .next l' H' → P' .brk l' H') → (∀ x l' H', P (.ret x) l' H' → P' (.ret x) l' H') → oX (body l₁ H) P')
    (done : ∀ l H, I [] l H → g H = true ∧ P .next l H) (vs : List (List AV)) (l : AL) (H : AH) (h : I vs l H) : oX (forIt bind body g vs l H) P :=
  for_inv I (fun v vs l H h => let ⟨h1, l₁, h2, h3⟩ := step v vs l H h; ⟨h1, l₁, h2, h3 _ (fun _ _ z => z) (fun _ _ z => z) fun _ _ _ z => z⟩) done vs l H h
theorem for_rangeK {bind : List AV → AL → Option AL} {body : AL → AH → Option (AF × AL × AH)} {g : AH → Bool} {P : AF → AL → AH → Prop} {a c : Int} {n : Nat} (I : Nat → AL → AH → Prop)
    (step : ∀ i l H, i < n → I i l H → g H = true ∧ ∃ l₁, bind [AV.int (a + (i : Nat))] l = some l₁ ∧ ∀ P' : AF → AL → AH → Prop, (∀ l' H', I (i + 1) l' H' → P' .next l' H') → (∀ x l' H', P (.ret x) l' H' → P' (.ret x) l' H') → oX (body l₁ H) P')
    (done : ∀ l H, I n l H → g H = true ∧ P .next l H) (l : AL) (H : AH) (h : I 0 l H) (hn : (c - a).toNat = n) : oX (forIt bind body g (rangeL a c) l H) P :=
  for_range I (fun i l H hi h => let ⟨h1, l₁, h2, h3⟩ := step i l H hi h; ⟨h1, l₁, h2, h3 _ (fun _ _ z => z) fun _ _ _ z => z⟩) done l H h hn
theorem sm_l {x y : Int} (h : small x = true) : (small x || small y) = true := by rw [h]; rfl
theorem sm_r {x y : Int} (h : small y = true) : (small x || small y) = true := by rw [h]; exact Bool.or_true _
theorem sm_d {x y : Int} (h : small y = true) (k : (y != 0) = true) : (small y && y != 0) = true := by rw [h, k]; rfl
theorem xthen_cut {A : Option (AF × AL × AH)} {k : AL → AH → Option (AF × AL × AH)} {P : AF → AL → AH → Prop} (Q : AL → AH → Prop) (h1 : ∀ P' : AF → AL → AH → Prop, (∀ l H, Q l H → P' .next l H) → oX A P') (h2 : ∀ l H, Q l H → oX (k l H) P) : oX (xthen A k) P := by
  obtain ⟨f, l, H, rfl, hf, hq⟩ := h1 (fun f l H => f = .next ∧ Q l H) fun l H q => ⟨rfl, q⟩
  cases hf
  exact h2 l H hq
theorem some3 {α β γ : Type} {a a' : α} {b b' : β} {c c' : γ} (h : some (a, b, c) = some (a', b', c')) : a = a' ∧ b = b' ∧ c = c' := by cases h; exact ⟨rfl, rfl, rfl⟩
theorem call_K {E : Evs} {N : Names} {H : AH} {f : Str} {bd body : List Stmt} {as : List AV} {ps : List Str} {R : AV → AH → Prop} (hd : defOf f bd = some (ps, body, N)) (hl : ps.length = as.length) (hc : (decide ps.Nodup && ps.all (isVar N)) = true)
    (h : ∀ P : AF → AL → AH → Prop, (∀ v l H', R v H' → P (.ret v) l H') → oX (E.x body N (bindAll ps as) H) P) : oW (callBy E bd f as H) R :=
  call_of hd hl hc (h _ fun _ _ _ r => r)
end Mine.L
end
section
/-! Contracts. -/
namespace Mine.L
open PySem
set_option maxRecDepth 100000
set_option linter.unusedSimpArgs false
noncomputable def fN (f : Str) : Names := match defOf f topBody with | some (_, _, N) => N | none => []
theorem call_ev {b : Bool} {ns : List Int} {n : Nat} {f : Str} {as : List AV} {H : AH} (h : isDef f = true) : (ev b ns (n + 1)).call f as H = callBy (ev b ns n) topBody f as H := by
  show (if isDef f = true then _ else _) = _
  rw [if_pos h]
noncomputable def sgV (s : Bool) : AV := .str (if s then "(" else ")")
noncomputable def rowsG : Int → List Int → List Bool → List Int
  | _, rows, [] => rows
  | r, rows, true :: q => rowsG (r + 1) rows q
  | r, rows, false :: q => rowsG r (r :: rows) q
noncomputable def rowsF (s : List Bool) : List Int := rowsG 0 [] s
theorem rows_vars : isVar (fN "_law_rows") "signs" = true ∧ isVar (fN "_law_rows") "rows" = true ∧ isVar (fN "_law_rows") "right" = true ∧ isVar (fN "_law_rows") "sign" = true := by decide +kernel
structure RowsI (H : AH) (sg sg' : List Bool) (right : Int) (rows : List Int) (r : Nat) (l : AL) (X : AH) : Prop where
  e1 : l "right" = some (.int right)
  e2 : l "rows" = some (.ref r)
  hp : H <+: X
  e3 : X[r]? = some (.list (rows.map AV.int))
  e4 : rowsG right rows sg' = rowsF sg
  e5 : rows.length + sg'.length ≤ 100
noncomputable def RowsJ (H : AH) (sg : List Bool) (vs : List (List AV)) (l : AL) (X : AH) : Prop := ∃ sg' right rows r, vs = (sg'.map sgV).map (fun v => [v]) ∧ RowsI H sg sg' right rows r l X
theorem rows_ok {b : Bool} {ns : List Int} {n : Nat} {H : AH} {k : Nat} {sg : List Bool} (hk : H[k]? = some (.list (sg.map sgV))) (hz : sg.length ≤ 100) : 
    oW ((ev b ns (n + 10)).call "_law_rows" [.ref k] H) fun v H' => H <+: H' ∧ ∃ r, v = .ref r ∧ H'[r]? = some (.list ((rowsF sg).map .int)) := by
  rw [call_ev (by decide +kernel)]
  obtain ⟨v1, v2, v3, v4⟩ := rows_vars
  refine call_K (ps := ["signs"]) (N := fN "_law_rows") rfl rfl (by decide +kernel) fun P hRet => ?_
  refine kOut ((?_ : KT _ ?_) (kF ?_ ?_))
  rotate_left 2
  · intro h0
    repeat1' ((try rw [exL_x] at h0); simp [xthen_next, xthen_ret, xthen_brk, selB_t, selB_f, puts_nil, puts_cons, exL_e, exS_ifK, sgV, storesOk, listAt, tupAt, v1, v2, v3, v4, -exS_if, -Int.natCast_pos, -Int.ofNat_lt, -Int.pred_toNat, -Int.toNat_sub', -Option.some.injEq, -Int.natCast_eq_zero, -Bool.not_not, -Int.zero_add, -Int.add_zero, -Int.zero_sub, -Int.sub_neg, -Int.neg_neg, -Int.sub_zero, -Option.map_bind, -bne_self_eq_false, -List.set_append_right, -List.length_replicate, -List.flatten_replicate_singleton, -Nat.one_mul, -Nat.zero_add, -Option.map_map, -List.getElem?_map, -oX_some, -oW_some, -exL_nil, -decide_eq_true_eq, -Bool.or_eq_true, -Bool.and_eq_true, -bne_iff_ne, -beq_iff_eq, -ne_eq, -List.append_assoc, -ge_iff_le, -Int.ofNat_le, -List.length_append, -List.length_map, -List.map_map, -get_len0, -get_lenS, -ints_map, -strs_map, -strs_snoc] at h0)
    exact type_of% h0
  · exact rfl
  intro zK
  clear zK
  refine kk ?_ ?_
  · kernel_rfl
  rw [exL_cons, exS_for]
  refine it_list rfl rfl (k := k) (H' := H ++ [.list []]) (x := sg.map sgV) (by kernel_rfl) (get_app hk) ?_
  refine for_K (RowsJ H sg) ?_ ?_ _ _ _ ⟨sg, 0, [], H.length, rfl, by kernel_rfl, by kernel_rfl, pre_app List.prefix_rfl, get_len0, rfl, by simpa using hz⟩
  · rintro v vs l X ⟨sg', right, rows, r, hv, e1, e2, hp, e3, e4, e5⟩
    cases sg' with
    | nil => cases hv
    | cons s sg' =>
      cases hv
      refine ⟨decide_eq_true (pre_at hp hk), _, bindT_name v4, fun P' hN hB hR => ?_⟩
      clear hB hR
      rw [puts_eq (l := l) [("right", _), ("rows", _)] ⟨e1, e2, trivial⟩]
      simp only [List.length_cons] at e5
      cases s with
      | true =>
        refine kOut ((?_ : KT _ ?_) (kF ?_ ?_))
        rotate_left 2
        · intro h0
          repeat1' ((try rw [exL_x] at h0); simp [xthen_next, xthen_ret, xthen_brk, selB_t, selB_f, puts_nil, puts_cons, exL_e, exS_ifK, sgV, storesOk, listAt, tupAt, v1, v2, v3, v4, -exS_if, -Int.natCast_pos, -Int.ofNat_lt, -Int.pred_toNat, -Int.toNat_sub', -Option.some.injEq, -Int.natCast_eq_zero, -Bool.not_not, -Int.zero_add, -Int.add_zero, -Int.zero_sub, -Int.sub_neg, -Int.neg_neg, -Int.sub_zero, -Option.map_bind, -bne_self_eq_false, -List.set_append_right, -List.length_replicate, -List.flatten_replicate_singleton, -Nat.one_mul, -Nat.zero_add, -Option.map_map, -List.getElem?_map, -oX_some, -oW_some, -exL_nil, -decide_eq_true_eq, -Bool.or_eq_true, -Bool.and_eq_true, -bne_iff_ne, -beq_iff_eq, -ne_eq, -List.append_assoc, -ge_iff_le, -Int.ofNat_le, -List.length_append, -List.length_map, -List.map_map, -get_len0, -get_lenS, -ints_map, -strs_map, -strs_snoc] at h0)
          exact type_of% h0
        · exact rfl
        intro zK
        clear zK
        refine kk ?_ ?_
        · kernel_rfl
        exact ox_nil (hN _ _ ⟨sg', right + 1, rows, r, rfl, by kernel_rfl, by kernel_rfl, hp, e3, e4, by omega⟩)
      | false =>
        have hs : sizeOk (1 + rows.length) = true := size_le (by omega)
        have hw0 : (X ++ [AO.list [AV.int right]])[X.length]? = some (AO.list [AV.int right]) := get_len0
        repeat
          first
          | refine kOut ((?_ : KT _ ?_) (kF ?_ ?_))
            rotate_left 2
            · intro h0
              repeat1' ((try rw [exL_x] at h0); simp [xthen_next, xthen_ret, xthen_brk, selB_t, selB_f, puts_nil, puts_cons, exL_e, exS_ifK, sgV, storesOk, listAt, tupAt, v1, v2, v3, v4, -exS_if, -Int.natCast_pos, -Int.ofNat_lt, -Int.pred_toNat, -Int.toNat_sub', -Option.some.injEq, -Int.natCast_eq_zero, -Bool.not_not, -Int.zero_add, -Int.add_zero, -Int.zero_sub, -Int.sub_neg, -Int.neg_neg, -Int.sub_zero, -Option.map_bind, -bne_self_eq_false, -List.set_append_right, -List.length_replicate, -List.flatten_replicate_singleton, -Nat.one_mul, -Nat.zero_add, -Option.map_map, -List.getElem?_map, -oX_some, -oW_some, -exL_nil, -decide_eq_true_eq, -Bool.or_eq_true, -Bool.and_eq_true, -bne_iff_ne, -beq_iff_eq, -ne_eq, -List.append_assoc, -ge_iff_le, -Int.ofNat_le, -List.length_append, -List.length_map, -List.map_map, -get_len0, -get_lenS, -ints_map, -strs_map, -strs_snoc] at h0)
              exact type_of% h0
            · exact rfl
            intro zK
            clear zK
            refine kk ?_ ?_
            · kernel_rfl
          | simp only [e3, get_app e3, hw0, hs, List.length_cons, List.length_nil, Nat.zero_add, bi_len_s, bne_self_eq_false, Bool.false_eq_true, if_false, decide_true, assignO_list, lenO_list, lenO_tup, getO_list, getO_tup, List.length_map, Bool.true_or, Bool.or_true, Bool.and_self, Bool.true_and, Bool.and_true, eq_self, if_true]
        exact ox_nil (hN _ _ ⟨sg', right, right :: rows, _, rfl, by kernel_rfl, by kernel_rfl, pre_app (pre_app hp), get_len0, e4, by simp only [List.length_cons]; omega⟩)
  · rintro l X ⟨sg', right, rows, r, hv, e1, e2, hp, e3, e4, e5⟩
    refine ⟨decide_eq_true (pre_at hp hk), ?_⟩
    cases sg' with
    | nil =>
      dsimp only
      rw [puts_eq (l := l) [("rows", _)] ⟨e2, trivial⟩]
      refine kOut ((?_ : KT _ ?_) (kF ?_ ?_))
      rotate_left 2
      · intro h0
        repeat1' ((try rw [exL_x] at h0); simp [xthen_next, xthen_ret, xthen_brk, selB_t, selB_f, puts_nil, puts_cons, exL_e, exS_ifK, sgV, storesOk, listAt, tupAt, v1, v2, v3, v4, -exS_if, -Int.natCast_pos, -Int.ofNat_lt, -Int.pred_toNat, -Int.toNat_sub', -Option.some.injEq, -Int.natCast_eq_zero, -Bool.not_not, -Int.zero_add, -Int.add_zero, -Int.zero_sub, -Int.sub_neg, -Int.neg_neg, -Int.sub_zero, -Option.map_bind, -bne_self_eq_false, -List.set_append_right, -List.length_replicate, -List.flatten_replicate_singleton, -Nat.one_mul, -Nat.zero_add, -Option.map_map, -List.getElem?_map, -oX_some, -oW_some, -exL_nil, -decide_eq_true_eq, -Bool.or_eq_true, -Bool.and_eq_true, -bne_iff_ne, -beq_iff_eq, -ne_eq, -List.append_assoc, -ge_iff_le, -Int.ofNat_le, -List.length_append, -List.length_map, -List.map_map, -get_len0, -get_lenS, -ints_map, -strs_map, -strs_snoc] at h0)
        exact type_of% h0
      · exact rfl
      intro zK
      clear zK
      refine kk ?_ ?_
      · kernel_rfl
      exact ox_ret (hRet _ _ _ ⟨hp, r, rfl, by rw [e3, ← e4]; rfl⟩)
    | cons _ _ => cases hv
end Mine.L
end
section
/-! Contracts: texts. -/
namespace Mine.L
open PySem
set_option maxRecDepth 100000
set_option linter.unusedSimpArgs false

noncomputable def uF : Nat → Bool → List Nat → List (Int × Str)
  | _, false, [] => []
  | p, true, [] => [((p : Int) - 1, ⟨#[92]⟩)]
  | p, true, c :: r => ((p : Int), ⟨#[92, c]⟩) :: uF (p + 1) false r
  | p, false, c :: r => if c = 92 then uF (p + 1) true r else ((p : Int), ⟨#[c]⟩) :: uF (p + 1) false r
noncomputable def uV (q : Int × Str) : List AV := [.int q.1, .str q.2]
theorem units_is : ∀ (r : List Nat) (p : Nat) (e : Bool), unitsFrom p e r = (uF p e r).map uV
  | [], p, true => rfl
  | [], p, false => rfl
  | c :: r, p, true => by
    show [AV.int p, AV.str ⟨#[92, c]⟩] :: unitsFrom (p + 1) false r = _
    rw [units_is r]; rfl
  | c :: r, p, false => by
    unfold unitsFrom uF
    split
    · exact units_is r _ _
    · rw [units_is r]; rfl
theorem uF_len : ∀ (r : List Nat) (p : Nat) (e : Bool), (uF p e r).length ≤ r.length + 1
  | [], p, true => by simp [uF]
  | [], p, false => by simp [uF]
  | c :: r, p, true => by
    have := uF_len r (p + 1) false
    simp only [uF, List.length_cons]; omega
  | c :: r, p, false => by
    unfold uF
    split
    · have := uF_len r (p + 1) true
      simp only [List.length_cons]; omega
    · have := uF_len r (p + 1) false
      simp only [List.length_cons]; omega
noncomputable def inS (t s : Str) : Bool := !(Builtin.Str.occurrences s t 0 s.length 1).isEmpty
noncomputable def stripG (addr : Str) : List (Int × Str) → Int → Option Int → List Str → Int × List Str
  | [], st, _, acc => (st, acc)
  | (p, c) :: r, st, o, acc => if c = "\"" then (match o with
    | none => stripG addr r st (some p) acc
    | some q => stripG addr r (p + 1) none (if st ≠ q then acc ++ [pickS addr (some st) (some q) none] else acc)) else stripG addr r st o acc
noncomputable def stripF (addr : Str) : Str := if inS "\"" addr then (
    let q := stripG addr (uF 0 false addr.cps.toList) 0 none []
    joinS (if q.1 < addr.length then q.2 ++ [pickS addr (some q.1) none none] else q.2)) else addr
noncomputable def oV (o : Option Int) : AV := match o with
  | none => .none
  | some i => .int i
theorem pickS_len (s : Str) (lo hi : Option Int) : (pickS s lo hi none).length ≤ s.length := by
  unfold pickS
  split
  · exact Nat.le_refl _
  · show (List.filterMap _ _).toArray.size ≤ _
    rw [List.size_toArray]
    exact Nat.le_trans (List.length_filterMap_le _ _) (sliceIndices_le lo hi s.length)
theorem sumLen_app : ∀ (a : List Str) (x : Str), sumLen (a ++ [x]) = sumLen a + x.length
  | [], x => by simp [sumLen]
  | y :: r, x => by simp [sumLen, sumLen_app r x, Nat.add_assoc]
theorem pre_set {H X : AH} {r : Nat} {o : AO} (h : H <+: X) (hr : H.length ≤ r) : H <+: X.set r o := by
  obtain ⟨L, rfl⟩ := h
  rw [List.set_append_right _ _ hr]
  exact List.prefix_append ..
theorem set_get {X : AH} {r : Nat} {o o' : AO} (h : X[r]? = some o') : (X.set r o)[r]? = some o := by
  rw [List.getElem?_set_self (get_lt h)]
theorem ev_gen_true (ns : List Int) (n : Nat) : (ev true ns (n + 5)).gen = true := by
  show (true && decide (5 ≤ n + 4 + 1)) = true
  simp
theorem strip_vars : (isVar (fN "_strip_quoted_realnames") "addr" = true ∧ isVar (fN "_strip_quoted_realnames") "start" = true ∧ isVar (fN "_strip_quoted_realnames") "open_pos" = true ∧ isVar (fN "_strip_quoted_realnames") "result" = true ∧ isVar (fN "_strip_quoted_realnames") "pos" = true ∧ isVar (fN "_strip_quoted_realnames") "ch" = true) ∧
    isGlob (fN "_strip_quoted_realnames") "len" = true ∧ isGlob (fN "_strip_quoted_realnames") "_iter_escaped_chars" = true := by decide +kernel
structure StripI (addr : Str) (H : AH) (us : List (Int × Str)) (st : Int) (o : Option Int) (acc : List Str) (r : Nat) (l : AL) (X : AH) : Prop where
  e1 : l "addr" = some (.str addr)
  e2 : l "start" = some (.int st)
  e3 : l "open_pos" = some (oV o)
  e4 : l "result" = some (.ref r)
  hp : H <+: X
  hr : H.length ≤ r
  e5 : X[r]? = some (.list (acc.map AV.str))
  e6 : stripG addr us st o acc = stripG addr (uF 0 false addr.cps.toList) 0 none []
  e7 : acc.length + us.length ≤ 501
  e8 : sumLen acc ≤ acc.length * 500
noncomputable def StripJ (addr : Str) (H : AH) (vs : List (List AV)) (l : AL) (X : AH) : Prop := ∃ us st o acc r, vs = us.map uV ∧ StripI addr H us st o acc r l X
theorem strip_ok {ns : List Int} {n : Nat} {H : AH} {addr : Str} (hz : addr.length ≤ 500) :
    oW ((ev true ns (n + 20)).call "_strip_quoted_realnames" [.str addr] H) fun v H' => H <+: H' ∧ v = .str (stripF addr) := by
  rw [call_ev (by decide +kernel)]
  refine hide fun zzG zzF => ?_
  obtain ⟨⟨v1, v2, v3, v4, v5, v6⟩, g1, g2⟩ := strip_vars
  refine zzF ?_
  clear zzF zzG
  refine call_K (ps := ["addr"]) (N := fN "_strip_quoted_realnames") rfl rfl (by decide +kernel) fun P hRet => ?_
  cases hq : inS "\"" addr with
  | false =>
    have hF : stripF addr = addr := by unfold stripF; rw [hq]; rfl
    have hq' : (Builtin.Str.occurrences addr (Str.ofString "\"") 0 addr.length 1).isEmpty = true := by unfold inS at hq; simpa using hq
    repeat
      first
      | refine kOut ((?_ : KT _ ?_) (kF ?_ ?_))
        rotate_left 2
        · intro h0
          repeat1' ((try rw [exL_x] at h0); simp [xthen_next, xthen_ret, xthen_brk, selB_t, selB_f, puts_nil, puts_cons, exL_e, exS_ifK, storesOk, listAt, tupAt, uV, oV, v1, v2, v3, v4, v5, v6, g1, g2, -exS_if, -Int.natCast_pos, -Int.ofNat_lt, -Int.pred_toNat, -Int.toNat_sub', -Option.some.injEq, -Int.natCast_eq_zero, -Bool.not_not, -Int.zero_add, -Int.add_zero, -Int.zero_sub, -Int.sub_neg, -Int.neg_neg, -Int.sub_zero, -Option.map_bind, -bne_self_eq_false, -List.set_append_right, -List.length_replicate, -List.flatten_replicate_singleton, -Nat.one_mul, -Nat.zero_add, -Option.map_map, -List.getElem?_map, -oX_some, -oW_some, -exL_nil, -decide_eq_true_eq, -Bool.or_eq_true, -Bool.and_eq_true, -bne_iff_ne, -beq_iff_eq, -ne_eq, -List.append_assoc, -ge_iff_le, -Int.ofNat_le, -List.length_append, -List.length_map, -List.map_map, -get_len0, -get_lenS, -ints_map, -strs_map, -strs_snoc] at h0)
          exact type_of% h0
        · exact rfl
        intro zK
        clear zK
        refine kk ?_ ?_
        · kernel_rfl
      | simp only [hq', Bool.not_true, Bool.not_false, bi_len_s, bne_self_eq_false, Bool.false_eq_true, if_false, decide_true, assignO_list, lenO_list, lenO_tup, getO_list, getO_tup, List.length_map, Bool.true_or, Bool.or_true, Bool.and_self, Bool.true_and, Bool.and_true, eq_self, if_true]
    exact ox_ret (hRet _ _ _ ⟨List.prefix_rfl, by rw [hF]⟩)
  | true =>
    have hq' : (Builtin.Str.occurrences addr (Str.ofString "\"") 0 addr.length 1).isEmpty = false := by unfold inS at hq; simpa using hq
    repeat
      first
      | refine kOut ((?_ : KT _ ?_) (kF ?_ ?_))
        rotate_left 2
        · intro h0
          repeat1' ((try rw [exL_x] at h0); simp [xthen_next, xthen_ret, xthen_brk, selB_t, selB_f, puts_nil, puts_cons, exL_e, exS_ifK, storesOk, listAt, tupAt, uV, oV, v1, v2, v3, v4, v5, v6, g1, g2, -exS_if, -Int.natCast_pos, -Int.ofNat_lt, -Int.pred_toNat, -Int.toNat_sub', -Option.some.injEq, -Int.natCast_eq_zero, -Bool.not_not, -Int.zero_add, -Int.add_zero, -Int.zero_sub, -Int.sub_neg, -Int.neg_neg, -Int.sub_zero, -Option.map_bind, -bne_self_eq_false, -List.set_append_right, -List.length_replicate, -List.flatten_replicate_singleton, -Nat.one_mul, -Nat.zero_add, -Option.map_map, -List.getElem?_map, -oX_some, -oW_some, -exL_nil, -decide_eq_true_eq, -Bool.or_eq_true, -Bool.and_eq_true, -bne_iff_ne, -beq_iff_eq, -ne_eq, -List.append_assoc, -ge_iff_le, -Int.ofNat_le, -List.length_append, -List.length_map, -List.map_map, -get_len0, -get_lenS, -ints_map, -strs_map, -strs_snoc] at h0)
          exact type_of% h0
        · exact rfl
        intro zK
        clear zK
        refine kk ?_ ?_
        · kernel_rfl
      | simp only [hq', Bool.not_true, Bool.not_false, bi_len_s, bne_self_eq_false, Bool.false_eq_true, if_false, decide_true, assignO_list, lenO_list, lenO_tup, getO_list, getO_tup, List.length_map, Bool.true_or, Bool.or_true, Bool.and_self, Bool.true_and, Bool.and_true, eq_self, if_true]
    rw [exL_cons, exS_for]
    refine it_gen (s := addr) (H' := H ++ [.list []]) (by rw [g2]; rfl) rfl (ev_gen_true ns (n + 13)) (by kernel_rfl) ?_
    rw [units_is]
    refine for_K (StripJ addr H) ?_ ?_ _ _ _ ⟨uF 0 false addr.cps.toList, 0, none, [], H.length, rfl, by kernel_rfl, by kernel_rfl, by kernel_rfl, by kernel_rfl, pre_app List.prefix_rfl, Nat.le_refl _, by simp, rfl, ?_, by simp [sumLen]⟩
    · rintro v vs l X ⟨us, st, o, acc, r, hv, e1, e2, e3, e4, hp, hr, e5, e6, e7, e8⟩
      cases us with
      | nil => cases hv
      | cons u us =>
        obtain ⟨pp, c⟩ := u
        cases hv
        refine ⟨rfl, put (put l "pos" (.int pp)) "ch" (.str c), by kernel_rfl, fun P' hN hB hR => ?_⟩
        clear hB hR
        by_cases hc : c = Str.ofString "\""
        · subst hc
          cases o with
          | none =>
            rw [puts_eq (l := l) [("addr", _), ("start", _), ("open_pos", .none), ("result", _)] ⟨e1, e2, e3, e4, trivial⟩]
            refine kOut ((?_ : KT _ ?_) (kF ?_ ?_))
            rotate_left 2
            · intro h0
              repeat1' ((try rw [exL_x] at h0); simp [xthen_next, xthen_ret, xthen_brk, selB_t, selB_f, puts_nil, puts_cons, exL_e, exS_ifK, storesOk, listAt, tupAt, uV, oV, v1, v2, v3, v4, v5, v6, g1, g2, -exS_if, -Int.natCast_pos, -Int.ofNat_lt, -Int.pred_toNat, -Int.toNat_sub', -Option.some.injEq, -Int.natCast_eq_zero, -Bool.not_not, -Int.zero_add, -Int.add_zero, -Int.zero_sub, -Int.sub_neg, -Int.neg_neg, -Int.sub_zero, -Option.map_bind, -bne_self_eq_false, -List.set_append_right, -List.length_replicate, -List.flatten_replicate_singleton, -Nat.one_mul, -Nat.zero_add, -Option.map_map, -List.getElem?_map, -oX_some, -oW_some, -exL_nil, -decide_eq_true_eq, -Bool.or_eq_true, -Bool.and_eq_true, -bne_iff_ne, -beq_iff_eq, -ne_eq, -List.append_assoc, -ge_iff_le, -Int.ofNat_le, -List.length_append, -List.length_map, -List.map_map, -get_len0, -get_lenS, -ints_map, -strs_map, -strs_snoc] at h0)
              exact type_of% h0
            · exact rfl
            intro zK
            clear zK
            refine kk ?_ ?_
            · kernel_rfl
            exact ox_nil (hN _ _ ⟨us, st, some pp, acc, r, rfl, by kernel_rfl, by kernel_rfl, by kernel_rfl, by kernel_rfl, hp, hr, e5, by rw [← e6]; simp [stripG], by simp at e7; omega, e8⟩)
          | some q =>
            rw [puts_eq (l := l) [("addr", _), ("start", _), ("open_pos", .int q), ("result", _)] ⟨e1, e2, e3, e4, trivial⟩]
            have hs : sizeOk addr.length = true := size_le (by omega)
            have hs2 : sizeOk (acc.length + 1) = true := size_le (by simp at e7; omega)
            refine kOut ((?_ : KT _ ?_) (kF ?_ ?_))
            rotate_left 2
            · intro h0
              repeat1' ((try rw [exL_x] at h0); simp [xthen_next, xthen_ret, xthen_brk, selB_t, selB_f, puts_nil, puts_cons, exL_e, exS_ifK, storesOk, listAt, tupAt, uV, oV, v1, v2, v3, v4, v5, v6, g1, g2, -exS_if, -Int.natCast_pos, -Int.ofNat_lt, -Int.pred_toNat, -Int.toNat_sub', -Option.some.injEq, -Int.natCast_eq_zero, -Bool.not_not, -Int.zero_add, -Int.add_zero, -Int.zero_sub, -Int.sub_neg, -Int.neg_neg, -Int.sub_zero, -Option.map_bind, -bne_self_eq_false, -List.set_append_right, -List.length_replicate, -List.flatten_replicate_singleton, -Nat.one_mul, -Nat.zero_add, -Option.map_map, -List.getElem?_map, -oX_some, -oW_some, -exL_nil, -decide_eq_true_eq, -Bool.or_eq_true, -Bool.and_eq_true, -bne_iff_ne, -beq_iff_eq, -ne_eq, -List.append_assoc, -ge_iff_le, -Int.ofNat_le, -List.length_append, -List.length_map, -List.map_map, -get_len0, -get_lenS, -ints_map, -strs_map, -strs_snoc] at h0)
              exact type_of% h0
            · exact rfl
            intro zK
            clear zK
            refine kk ?_ ?_
            · kernel_rfl
            by_cases hst : st = q
            · subst hst
              rw [show (st != st) = false from bne_self_eq_false st]
              refine kOut ((?_ : KT _ ?_) (kF ?_ ?_))
              rotate_left 2
              · intro h0
                repeat1' ((try rw [exL_x] at h0); simp [xthen_next, xthen_ret, xthen_brk, selB_t, selB_f, puts_nil, puts_cons, exL_e, exS_ifK, storesOk, listAt, tupAt, uV, oV, v1, v2, v3, v4, v5, v6, g1, g2, -exS_if, -Int.natCast_pos, -Int.ofNat_lt, -Int.pred_toNat, -Int.toNat_sub', -Option.some.injEq, -Int.natCast_eq_zero, -Bool.not_not, -Int.zero_add, -Int.add_zero, -Int.zero_sub, -Int.sub_neg, -Int.neg_neg, -Int.sub_zero, -Option.map_bind, -bne_self_eq_false, -List.set_append_right, -List.length_replicate, -List.flatten_replicate_singleton, -Nat.one_mul, -Nat.zero_add, -Option.map_map, -List.getElem?_map, -oX_some, -oW_some, -exL_nil, -decide_eq_true_eq, -Bool.or_eq_true, -Bool.and_eq_true, -bne_iff_ne, -beq_iff_eq, -ne_eq, -List.append_assoc, -ge_iff_le, -Int.ofNat_le, -List.length_append, -List.length_map, -List.map_map, -get_len0, -get_lenS, -ints_map, -strs_map, -strs_snoc] at h0)
                exact type_of% h0
              · exact rfl
              intro zK
              clear zK
              refine kk ?_ ?_
              · kernel_rfl
              exact ox_nil (hN _ _ ⟨us, pp + 1, none, acc, r, rfl, by kernel_rfl, by kernel_rfl, by kernel_rfl, by kernel_rfl, hp, hr, e5, by rw [← e6]; simp [stripG], by simp at e7; omega, e8⟩)
            · rw [show (st != q) = true from bne_iff_ne.mpr hst]
              repeat
                first
                | refine kOut ((?_ : KT _ ?_) (kF ?_ ?_))
                  rotate_left 2
                  · intro h0
                    repeat1' ((try rw [exL_x] at h0); simp [xthen_next, xthen_ret, xthen_brk, selB_t, selB_f, puts_nil, puts_cons, exL_e, exS_ifK, storesOk, listAt, tupAt, uV, oV, v1, v2, v3, v4, v5, v6, g1, g2, -exS_if, -Int.natCast_pos, -Int.ofNat_lt, -Int.pred_toNat, -Int.toNat_sub', -Option.some.injEq, -Int.natCast_eq_zero, -Bool.not_not, -Int.zero_add, -Int.add_zero, -Int.zero_sub, -Int.sub_neg, -Int.neg_neg, -Int.sub_zero, -Option.map_bind, -bne_self_eq_false, -List.set_append_right, -List.length_replicate, -List.flatten_replicate_singleton, -Nat.one_mul, -Nat.zero_add, -Option.map_map, -List.getElem?_map, -oX_some, -oW_some, -exL_nil, -decide_eq_true_eq, -Bool.or_eq_true, -Bool.and_eq_true, -bne_iff_ne, -beq_iff_eq, -ne_eq, -List.append_assoc, -ge_iff_le, -Int.ofNat_le, -List.length_append, -List.length_map, -List.map_map, -get_len0, -get_lenS, -ints_map, -strs_map, -strs_snoc] at h0)
                    exact type_of% h0
                  · exact rfl
                  intro zK
                  clear zK
                  refine kk ?_ ?_
                  · kernel_rfl
                | simp only [hs, e5, hs2, bi_len_s, bne_self_eq_false, Bool.false_eq_true, if_false, decide_true, assignO_list, lenO_list, lenO_tup, getO_list, getO_tup, List.length_map, Bool.true_or, Bool.or_true, Bool.and_self, Bool.true_and, Bool.and_true, eq_self, if_true]
              refine ox_nil (hN _ _ ⟨us, pp + 1, none, acc ++ [pickS addr (some st) (some q) none], r, rfl, by kernel_rfl, by kernel_rfl, by kernel_rfl, by kernel_rfl, pre_set hp hr, hr, by rw [set_get e5]; simp, by rw [← e6]; simp [stripG, hst], by simp at e7 ⊢; omega, ?_⟩)
              rw [sumLen_app]
              have := pickS_len addr (some st) (some q)
              simp
              omega
        · rw [puts_eq (l := l) [("addr", _), ("start", _), ("open_pos", _), ("result", _)] ⟨e1, e2, e3, e4, trivial⟩]
          repeat
            first
            | refine kOut ((?_ : KT _ ?_) (kF ?_ ?_))
              rotate_left 2
              · intro h0
                repeat1' ((try rw [exL_x] at h0); simp [xthen_next, xthen_ret, xthen_brk, selB_t, selB_f, puts_nil, puts_cons, exL_e, exS_ifK, storesOk, listAt, tupAt, uV, oV, v1, v2, v3, v4, v5, v6, g1, g2, -exS_if, -Int.natCast_pos, -Int.ofNat_lt, -Int.pred_toNat, -Int.toNat_sub', -Option.some.injEq, -Int.natCast_eq_zero, -Bool.not_not, -Int.zero_add, -Int.add_zero, -Int.zero_sub, -Int.sub_neg, -Int.neg_neg, -Int.sub_zero, -Option.map_bind, -bne_self_eq_false, -List.set_append_right, -List.length_replicate, -List.flatten_replicate_singleton, -Nat.one_mul, -Nat.zero_add, -Option.map_map, -List.getElem?_map, -oX_some, -oW_some, -exL_nil, -decide_eq_true_eq, -Bool.or_eq_true, -Bool.and_eq_true, -bne_iff_ne, -beq_iff_eq, -ne_eq, -List.append_assoc, -ge_iff_le, -Int.ofNat_le, -List.length_append, -List.length_map, -List.map_map, -get_len0, -get_lenS, -ints_map, -strs_map, -strs_snoc] at h0)
                exact type_of% h0
              · exact rfl
              intro zK
              clear zK
              refine kk ?_ ?_
              · kernel_rfl
            | simp only [show (c == Str.ofString "\"") = false from beq_eq_false_iff_ne.mpr hc, bi_len_s, bne_self_eq_false, Bool.false_eq_true, if_false, decide_true, assignO_list, lenO_list, lenO_tup, getO_list, getO_tup, List.length_map, Bool.true_or, Bool.or_true, Bool.and_self, Bool.true_and, Bool.and_true, eq_self, if_true]
          exact ox_nil (hN _ _ ⟨us, st, o, acc, r, rfl, by kernel_rfl, by kernel_rfl, by kernel_rfl, by kernel_rfl, hp, hr, e5, by rw [← e6]; simp [stripG, hc], by simp at e7; omega, e8⟩)
    · rintro l X ⟨us, st, o, acc, r, hv, e1, e2, e3, e4, hp, hr, e5, e6, e7, e8⟩
      refine ⟨rfl, ?_⟩
      cases us with
      | cons _ _ => cases hv
      | nil =>
        have hs : sizeOk addr.length = true := size_le (by omega)
        have hs2 : sizeOk (acc.length + 1) = true := size_le (by simp at e7; omega)
        have hF : stripF addr = joinS (if st < addr.length then acc ++ [pickS addr (some st) none none] else acc) := by
          unfold stripF
          rw [hq, if_pos rfl, ← e6]
          rfl
        have hj : sizeOk (sumLen acc) = true := size_le (by simp at e7; omega)
        have hj2 : sizeOk (sumLen (acc ++ [pickS addr (some st) none none])) = true := size_le (by
          rw [sumLen_app]
          have := pickS_len addr (some st) none
          simp at e7; omega)
        dsimp only
        rw [puts_eq (l := l) [("addr", _), ("start", _), ("result", _)] ⟨e1, e2, e4, trivial⟩]
        repeat
          first
          | refine kOut ((?_ : KT _ ?_) (kF ?_ ?_))
            rotate_left 2
            · intro h0
              repeat1' ((try rw [exL_x] at h0); simp [xthen_next, xthen_ret, xthen_brk, selB_t, selB_f, puts_nil, puts_cons, exL_e, exS_ifK, storesOk, listAt, tupAt, uV, oV, v1, v2, v3, v4, v5, v6, g1, g2, -exS_if, -Int.natCast_pos, -Int.ofNat_lt, -Int.pred_toNat, -Int.toNat_sub', -Option.some.injEq, -Int.natCast_eq_zero, -Bool.not_not, -Int.zero_add, -Int.add_zero, -Int.zero_sub, -Int.sub_neg, -Int.neg_neg, -Int.sub_zero, -Option.map_bind, -bne_self_eq_false, -List.set_append_right, -List.length_replicate, -List.flatten_replicate_singleton, -Nat.one_mul, -Nat.zero_add, -Option.map_map, -List.getElem?_map, -oX_some, -oW_some, -exL_nil, -decide_eq_true_eq, -Bool.or_eq_true, -Bool.and_eq_true, -bne_iff_ne, -beq_iff_eq, -ne_eq, -List.append_assoc, -ge_iff_le, -Int.ofNat_le, -List.length_append, -List.length_map, -List.map_map, -get_len0, -get_lenS, -ints_map, -strs_map, -strs_snoc] at h0)
              exact type_of% h0
            · exact rfl
            intro zK
            clear zK
            refine kk ?_ ?_
            · kernel_rfl
          | simp only [hs, bi_len_s, bne_self_eq_false, Bool.false_eq_true, if_false, decide_true, assignO_list, lenO_list, lenO_tup, getO_list, getO_tup, List.length_map, Bool.true_or, Bool.or_true, Bool.and_self, Bool.true_and, Bool.and_true, eq_self, if_true]
        by_cases hst : st < addr.length
        · rw [if_pos hst] at hF
          refine xsel_pos hst ?_
          repeat
            first
            | refine kOut ((?_ : KT _ ?_) (kF ?_ ?_))
              rotate_left 2
              · intro h0
                repeat1' ((try rw [exL_x] at h0); simp [xthen_next, xthen_ret, xthen_brk, selB_t, selB_f, puts_nil, puts_cons, exL_e, exS_ifK, storesOk, listAt, tupAt, uV, oV, v1, v2, v3, v4, v5, v6, g1, g2, -exS_if, -Int.natCast_pos, -Int.ofNat_lt, -Int.pred_toNat, -Int.toNat_sub', -Option.some.injEq, -Int.natCast_eq_zero, -Bool.not_not, -Int.zero_add, -Int.add_zero, -Int.zero_sub, -Int.sub_neg, -Int.neg_neg, -Int.sub_zero, -Option.map_bind, -bne_self_eq_false, -List.set_append_right, -List.length_replicate, -List.flatten_replicate_singleton, -Nat.one_mul, -Nat.zero_add, -Option.map_map, -List.getElem?_map, -oX_some, -oW_some, -exL_nil, -decide_eq_true_eq, -Bool.or_eq_true, -Bool.and_eq_true, -bne_iff_ne, -beq_iff_eq, -ne_eq, -List.append_assoc, -ge_iff_le, -Int.ofNat_le, -List.length_append, -List.length_map, -List.map_map, -get_len0, -get_lenS, -ints_map, -strs_map, -strs_snoc] at h0)
                exact type_of% h0
              · exact rfl
              intro zK
              clear zK
              refine kk ?_ ?_
              · kernel_rfl
            | simp only [e5, hs, hs2, set_get e5, hj2, strs_map, strs_snoc, Option.map_some, bi_len_s, bne_self_eq_false, Bool.false_eq_true, if_false, decide_true, assignO_list, lenO_list, lenO_tup, getO_list, getO_tup, List.length_map, Bool.true_or, Bool.or_true, Bool.and_self, Bool.true_and, Bool.and_true, eq_self, if_true]
          exact ox_ret (hRet _ _ _ ⟨pre_set hp hr, by rw [hF]⟩)
        · rw [if_neg hst] at hF
          refine xsel_neg hst ?_
          repeat
            first
            | refine kOut ((?_ : KT _ ?_) (kF ?_ ?_))
              rotate_left 2
              · intro h0
                repeat1' ((try rw [exL_x] at h0); simp [xthen_next, xthen_ret, xthen_brk, selB_t, selB_f, puts_nil, puts_cons, exL_e, exS_ifK, storesOk, listAt, tupAt, uV, oV, v1, v2, v3, v4, v5, v6, g1, g2, -exS_if, -Int.natCast_pos, -Int.ofNat_lt, -Int.pred_toNat, -Int.toNat_sub', -Option.some.injEq, -Int.natCast_eq_zero, -Bool.not_not, -Int.zero_add, -Int.add_zero, -Int.zero_sub, -Int.sub_neg, -Int.neg_neg, -Int.sub_zero, -Option.map_bind, -bne_self_eq_false, -List.set_append_right, -List.length_replicate, -List.flatten_replicate_singleton, -Nat.one_mul, -Nat.zero_add, -Option.map_map, -List.getElem?_map, -oX_some, -oW_some, -exL_nil, -decide_eq_true_eq, -Bool.or_eq_true, -Bool.and_eq_true, -bne_iff_ne, -beq_iff_eq, -ne_eq, -List.append_assoc, -ge_iff_le, -Int.ofNat_le, -List.length_append, -List.length_map, -List.map_map, -get_len0, -get_lenS, -ints_map, -strs_map, -strs_snoc] at h0)
                exact type_of% h0
              · exact rfl
              intro zK
              clear zK
              refine kk ?_ ?_
              · kernel_rfl
            | simp only [e5, hj, strs_map, Option.map_some, bi_len_s, bne_self_eq_false, Bool.false_eq_true, if_false, decide_true, assignO_list, lenO_list, lenO_tup, getO_list, getO_tup, List.length_map, Bool.true_or, Bool.or_true, Bool.and_self, Bool.true_and, Bool.and_true, eq_self, if_true]
          exact ox_ret (hRet _ _ _ ⟨hp, by rw [hF]⟩)
    · have := uF_len addr.cps.toList 0 false
      have : addr.cps.toList.length = addr.length := by simp [Str.length]
      simp; omega
end Mine.L
end
section
/-! Contracts: checks, pieces. -/
namespace Mine.L
open PySem
set_option maxRecDepth 100000
set_option linter.unusedSimpArgs false

noncomputable def balG : Int → List (Int × Str) → Bool
  | o, [] => o == 0
  | o, (_, c) :: r => if c = "(" then balG (o + 1) r else if c = ")" then (if o - 1 < 0 then false else balG (o - 1) r) else balG o r
noncomputable def checkF (addr : Str) : Bool := balG 0 (uF 0 false (stripF addr).cps.toList)
theorem check_vars : (isVar (fN "_check_parenthesis") "addr" = true ∧ isVar (fN "_check_parenthesis") "opens" = true ∧ isVar (fN "_check_parenthesis") "pos" = true ∧ isVar (fN "_check_parenthesis") "ch" = true) ∧
    isGlob (fN "_check_parenthesis") "_strip_quoted_realnames" = true ∧ isGlob (fN "_check_parenthesis") "_iter_escaped_chars" = true := by decide +kernel
structure CheckI (addr : Str) (H : AH) (us : List (Int × Str)) (o : Int) (l : AL) (X : AH) : Prop where
  e2 : l "opens" = some (.int o)
  hp : H <+: X
  e6 : balG o us = checkF addr
noncomputable def CheckJ (addr : Str) (H : AH) (vs : List (List AV)) (l : AL) (X : AH) : Prop := ∃ us o, vs = us.map uV ∧ CheckI addr H us o l X
theorem exS_augK {E : Evs} {N : Names} {l : AL} {H : AH} {x : Str} {q p : Pos} {e : Expr} {op : Operator} : exS E (.AugAssign (.Name x q) op e p) N l H = if isVar N x = true then (l x).bind fun w => onInt w fun a => obind (E.e e N l H) fun v H₁ => onInt v fun b => augV op x a b l H₁ else none := rfl
theorem check_ok {ns : List Int} {n : Nat} {H : AH} {addr : Str} (hz : addr.length ≤ 500) :
    oW ((ev true ns (n + 30)).call "_check_parenthesis" [.str addr] H) fun v H' => H <+: H' ∧ v = .bool (checkF addr) := by
  rw [call_ev (by decide +kernel)]
  refine hide fun zzG zzF => ?_
  obtain ⟨⟨v1, v2, v3, v4⟩, g1, g2⟩ := check_vars
  refine zzF ?_
  clear zzF zzG
  refine call_K (ps := ["addr"]) (N := fN "_check_parenthesis") rfl rfl (by decide +kernel) fun P hRet => ?_
  refine kOut ((?_ : KT _ ?_) (kF ?_ ?_))
  rotate_left 2
  · intro h0
    repeat1' ((try rw [exL_x] at h0); simp [xthen_next, xthen_ret, xthen_brk, selB_t, selB_f, puts_nil, puts_cons, exL_e, exS_ifK, exS_augK, uV, storesOk, listAt, tupAt, v1, v2, v3, v4, g1, g2, -exS_if, -Int.natCast_pos, -Int.ofNat_lt, -Int.pred_toNat, -Int.toNat_sub', -Option.some.injEq, -Int.natCast_eq_zero, -Bool.not_not, -Int.zero_add, -Int.add_zero, -Int.zero_sub, -Int.sub_neg, -Int.neg_neg, -Int.sub_zero, -Option.map_bind, -bne_self_eq_false, -List.set_append_right, -List.length_replicate, -List.flatten_replicate_singleton, -Nat.one_mul, -Nat.zero_add, -Option.map_map, -List.getElem?_map, -oX_some, -oW_some, -exL_nil, -decide_eq_true_eq, -Bool.or_eq_true, -Bool.and_eq_true, -bne_iff_ne, -beq_iff_eq, -ne_eq, -List.append_assoc, -ge_iff_le, -Int.ofNat_le, -List.length_append, -List.length_map, -List.map_map, -get_len0, -get_lenS, -ints_map, -strs_map, -strs_snoc] at h0)
    exact type_of% h0
  · exact rfl
  intro zK
  clear zK
  refine kk ?_ ?_
  · kernel_rfl
  try with_reducible refine ox_bindI ?_
  repeat with_reducible refine oW_bindI ?_
  refine oW_mono (strip_ok hz) ?_
  rintro v H' ⟨hp, rfl⟩
  refine kOut ((?_ : KT _ ?_) (kF ?_ ?_))
  rotate_left 2
  · intro h0
    repeat1' ((try rw [exL_x] at h0); simp [xthen_next, xthen_ret, xthen_brk, selB_t, selB_f, puts_nil, puts_cons, exL_e, exS_ifK, exS_augK, uV, storesOk, listAt, tupAt, v1, v2, v3, v4, g1, g2, -exS_if, -Int.natCast_pos, -Int.ofNat_lt, -Int.pred_toNat, -Int.toNat_sub', -Option.some.injEq, -Int.natCast_eq_zero, -Bool.not_not, -Int.zero_add, -Int.add_zero, -Int.zero_sub, -Int.sub_neg, -Int.neg_neg, -Int.sub_zero, -Option.map_bind, -bne_self_eq_false, -List.set_append_right, -List.length_replicate, -List.flatten_replicate_singleton, -Nat.one_mul, -Nat.zero_add, -Option.map_map, -List.getElem?_map, -oX_some, -oW_some, -exL_nil, -decide_eq_true_eq, -Bool.or_eq_true, -Bool.and_eq_true, -bne_iff_ne, -beq_iff_eq, -ne_eq, -List.append_assoc, -ge_iff_le, -Int.ofNat_le, -List.length_append, -List.length_map, -List.map_map, -get_len0, -get_lenS, -ints_map, -strs_map, -strs_snoc] at h0)
    exact type_of% h0
  · exact rfl
  intro zK
  clear zK
  refine kk ?_ ?_
  · kernel_rfl
  rw [exL_cons, exS_for]
  refine it_gen (s := stripF addr) (H' := H') (by rw [g2]; rfl) rfl (ev_gen_true ns (n + 23)) (by kernel_rfl) ?_
  rw [units_is]
  refine for_K (CheckJ addr H) ?_ ?_ _ _ _ ⟨_, 0, rfl, by kernel_rfl, hp, rfl⟩
  · rintro v vs l X ⟨us, o, hv, e2, hp, e6⟩
    cases us with
    | nil => cases hv
    | cons u us =>
      obtain ⟨pp, c⟩ := u
      cases hv
      refine ⟨rfl, put (put l "pos" (.int pp)) "ch" (.str c), by kernel_rfl, fun P' hN hB hR => ?_⟩
      clear hB
      rw [puts_eq (l := l) [("opens", _)] ⟨e2, trivial⟩]
      refine kOut ((?_ : KT _ ?_) (kF ?_ ?_))
      rotate_left 2
      · intro h0
        repeat1' ((try rw [exL_x] at h0); simp [xthen_next, xthen_ret, xthen_brk, selB_t, selB_f, puts_nil, puts_cons, exL_e, exS_ifK, exS_augK, uV, storesOk, listAt, tupAt, v1, v2, v3, v4, g1, g2, -exS_if, -Int.natCast_pos, -Int.ofNat_lt, -Int.pred_toNat, -Int.toNat_sub', -Option.some.injEq, -Int.natCast_eq_zero, -Bool.not_not, -Int.zero_add, -Int.add_zero, -Int.zero_sub, -Int.sub_neg, -Int.neg_neg, -Int.sub_zero, -Option.map_bind, -bne_self_eq_false, -List.set_append_right, -List.length_replicate, -List.flatten_replicate_singleton, -Nat.one_mul, -Nat.zero_add, -Option.map_map, -List.getElem?_map, -oX_some, -oW_some, -exL_nil, -decide_eq_true_eq, -Bool.or_eq_true, -Bool.and_eq_true, -bne_iff_ne, -beq_iff_eq, -ne_eq, -List.append_assoc, -ge_iff_le, -Int.ofNat_le, -List.length_append, -List.length_map, -List.map_map, -get_len0, -get_lenS, -ints_map, -strs_map, -strs_snoc] at h0)
        exact type_of% h0
      · exact rfl
      intro zK
      clear zK
      refine kk ?_ ?_
      · kernel_rfl
      by_cases h1 : c = Str.ofString "("
      · subst h1
        refine kOut ((?_ : KT _ ?_) (kF ?_ ?_))
        rotate_left 2
        · intro h0
          repeat1' ((try rw [exL_x] at h0); simp [xthen_next, xthen_ret, xthen_brk, selB_t, selB_f, puts_nil, puts_cons, exL_e, exS_ifK, exS_augK, uV, storesOk, listAt, tupAt, v1, v2, v3, v4, g1, g2, -exS_if, -Int.natCast_pos, -Int.ofNat_lt, -Int.pred_toNat, -Int.toNat_sub', -Option.some.injEq, -Int.natCast_eq_zero, -Bool.not_not, -Int.zero_add, -Int.add_zero, -Int.zero_sub, -Int.sub_neg, -Int.neg_neg, -Int.sub_zero, -Option.map_bind, -bne_self_eq_false, -List.set_append_right, -List.length_replicate, -List.flatten_replicate_singleton, -Nat.one_mul, -Nat.zero_add, -Option.map_map, -List.getElem?_map, -oX_some, -oW_some, -exL_nil, -decide_eq_true_eq, -Bool.or_eq_true, -Bool.and_eq_true, -bne_iff_ne, -beq_iff_eq, -ne_eq, -List.append_assoc, -ge_iff_le, -Int.ofNat_le, -List.length_append, -List.length_map, -List.map_map, -get_len0, -get_lenS, -ints_map, -strs_map, -strs_snoc] at h0)
          exact type_of% h0
        · exact rfl
        intro zK
        clear zK
        refine kk ?_ ?_
        · kernel_rfl
        exact ox_nil (hN _ _ ⟨us, o + 1, rfl, by kernel_rfl, hp, by rw [← e6]; simp [balG]⟩)
      · rw [show (c == Str.ofString "(") = false from beq_eq_false_iff_ne.mpr h1]
        refine kOut ((?_ : KT _ ?_) (kF ?_ ?_))
        rotate_left 2
        · intro h0
          repeat1' ((try rw [exL_x] at h0); simp [xthen_next, xthen_ret, xthen_brk, selB_t, selB_f, puts_nil, puts_cons, exL_e, exS_ifK, exS_augK, uV, storesOk, listAt, tupAt, v1, v2, v3, v4, g1, g2, -exS_if, -Int.natCast_pos, -Int.ofNat_lt, -Int.pred_toNat, -Int.toNat_sub', -Option.some.injEq, -Int.natCast_eq_zero, -Bool.not_not, -Int.zero_add, -Int.add_zero, -Int.zero_sub, -Int.sub_neg, -Int.neg_neg, -Int.sub_zero, -Option.map_bind, -bne_self_eq_false, -List.set_append_right, -List.length_replicate, -List.flatten_replicate_singleton, -Nat.one_mul, -Nat.zero_add, -Option.map_map, -List.getElem?_map, -oX_some, -oW_some, -exL_nil, -decide_eq_true_eq, -Bool.or_eq_true, -Bool.and_eq_true, -bne_iff_ne, -beq_iff_eq, -ne_eq, -List.append_assoc, -ge_iff_le, -Int.ofNat_le, -List.length_append, -List.length_map, -List.map_map, -get_len0, -get_lenS, -ints_map, -strs_map, -strs_snoc] at h0)
          exact type_of% h0
        · exact rfl
        intro zK
        clear zK
        refine kk ?_ ?_
        · kernel_rfl
        by_cases h2 : c = Str.ofString ")"
        · subst h2
          refine kOut ((?_ : KT _ ?_) (kF ?_ ?_))
          rotate_left 2
          · intro h0
            repeat1' ((try rw [exL_x] at h0); simp [xthen_next, xthen_ret, xthen_brk, selB_t, selB_f, puts_nil, puts_cons, exL_e, exS_ifK, exS_augK, uV, storesOk, listAt, tupAt, v1, v2, v3, v4, g1, g2, -exS_if, -Int.natCast_pos, -Int.ofNat_lt, -Int.pred_toNat, -Int.toNat_sub', -Option.some.injEq, -Int.natCast_eq_zero, -Bool.not_not, -Int.zero_add, -Int.add_zero, -Int.zero_sub, -Int.sub_neg, -Int.neg_neg, -Int.sub_zero, -Option.map_bind, -bne_self_eq_false, -List.set_append_right, -List.length_replicate, -List.flatten_replicate_singleton, -Nat.one_mul, -Nat.zero_add, -Option.map_map, -List.getElem?_map, -oX_some, -oW_some, -exL_nil, -decide_eq_true_eq, -Bool.or_eq_true, -Bool.and_eq_true, -bne_iff_ne, -beq_iff_eq, -ne_eq, -List.append_assoc, -ge_iff_le, -Int.ofNat_le, -List.length_append, -List.length_map, -List.map_map, -get_len0, -get_lenS, -ints_map, -strs_map, -strs_snoc] at h0)
            exact type_of% h0
          · exact rfl
          intro zK
          clear zK
          refine kk ?_ ?_
          · kernel_rfl
          by_cases h3 : o - 1 < 0
          · rw [decide_eq_true h3]
            refine kOut ((?_ : KT _ ?_) (kF ?_ ?_))
            rotate_left 2
            · intro h0
              repeat1' ((try rw [exL_x] at h0); simp [xthen_next, xthen_ret, xthen_brk, selB_t, selB_f, puts_nil, puts_cons, exL_e, exS_ifK, exS_augK, uV, storesOk, listAt, tupAt, v1, v2, v3, v4, g1, g2, -exS_if, -Int.natCast_pos, -Int.ofNat_lt, -Int.pred_toNat, -Int.toNat_sub', -Option.some.injEq, -Int.natCast_eq_zero, -Bool.not_not, -Int.zero_add, -Int.add_zero, -Int.zero_sub, -Int.sub_neg, -Int.neg_neg, -Int.sub_zero, -Option.map_bind, -bne_self_eq_false, -List.set_append_right, -List.length_replicate, -List.flatten_replicate_singleton, -Nat.one_mul, -Nat.zero_add, -Option.map_map, -List.getElem?_map, -oX_some, -oW_some, -exL_nil, -decide_eq_true_eq, -Bool.or_eq_true, -Bool.and_eq_true, -bne_iff_ne, -beq_iff_eq, -ne_eq, -List.append_assoc, -ge_iff_le, -Int.ofNat_le, -List.length_append, -List.length_map, -List.map_map, -get_len0, -get_lenS, -ints_map, -strs_map, -strs_snoc] at h0)
              exact type_of% h0
            · exact rfl
            intro zK
            clear zK
            refine kk ?_ ?_
            · kernel_rfl
            exact ox_ret (hR _ _ _ (hRet _ _ _ ⟨hp, by rw [← e6]; simp [balG, h3]⟩))
          · rw [decide_eq_false h3]
            refine kOut ((?_ : KT _ ?_) (kF ?_ ?_))
            rotate_left 2
            · intro h0
              repeat1' ((try rw [exL_x] at h0); simp [xthen_next, xthen_ret, xthen_brk, selB_t, selB_f, puts_nil, puts_cons, exL_e, exS_ifK, exS_augK, uV, storesOk, listAt, tupAt, v1, v2, v3, v4, g1, g2, -exS_if, -Int.natCast_pos, -Int.ofNat_lt, -Int.pred_toNat, -Int.toNat_sub', -Option.some.injEq, -Int.natCast_eq_zero, -Bool.not_not, -Int.zero_add, -Int.add_zero, -Int.zero_sub, -Int.sub_neg, -Int.neg_neg, -Int.sub_zero, -Option.map_bind, -bne_self_eq_false, -List.set_append_right, -List.length_replicate, -List.flatten_replicate_singleton, -Nat.one_mul, -Nat.zero_add, -Option.map_map, -List.getElem?_map, -oX_some, -oW_some, -exL_nil, -decide_eq_true_eq, -Bool.or_eq_true, -Bool.and_eq_true, -bne_iff_ne, -beq_iff_eq, -ne_eq, -List.append_assoc, -ge_iff_le, -Int.ofNat_le, -List.length_append, -List.length_map, -List.map_map, -get_len0, -get_lenS, -ints_map, -strs_map, -strs_snoc] at h0)
              exact type_of% h0
            · exact rfl
            intro zK
            clear zK
            refine kk ?_ ?_
            · kernel_rfl
            exact ox_nil (hN _ _ ⟨us, o - 1, rfl, by kernel_rfl, hp, by rw [← e6]; simp [balG, h3]⟩)
        · rw [show (c == Str.ofString ")") = false from beq_eq_false_iff_ne.mpr h2]
          refine kOut ((?_ : KT _ ?_) (kF ?_ ?_))
          rotate_left 2
          · intro h0
            repeat1' ((try rw [exL_x] at h0); simp [xthen_next, xthen_ret, xthen_brk, selB_t, selB_f, puts_nil, puts_cons, exL_e, exS_ifK, exS_augK, uV, storesOk, listAt, tupAt, v1, v2, v3, v4, g1, g2, -exS_if, -Int.natCast_pos, -Int.ofNat_lt, -Int.pred_toNat, -Int.toNat_sub', -Option.some.injEq, -Int.natCast_eq_zero, -Bool.not_not, -Int.zero_add, -Int.add_zero, -Int.zero_sub, -Int.sub_neg, -Int.neg_neg, -Int.sub_zero, -Option.map_bind, -bne_self_eq_false, -List.set_append_right, -List.length_replicate, -List.flatten_replicate_singleton, -Nat.one_mul, -Nat.zero_add, -Option.map_map, -List.getElem?_map, -oX_some, -oW_some, -exL_nil, -decide_eq_true_eq, -Bool.or_eq_true, -Bool.and_eq_true, -bne_iff_ne, -beq_iff_eq, -ne_eq, -List.append_assoc, -ge_iff_le, -Int.ofNat_le, -List.length_append, -List.length_map, -List.map_map, -get_len0, -get_lenS, -ints_map, -strs_map, -strs_snoc] at h0)
            exact type_of% h0
          · exact rfl
          intro zK
          clear zK
          refine kk ?_ ?_
          · kernel_rfl
          exact ox_nil (hN _ _ ⟨us, o, rfl, by kernel_rfl, hp, by rw [← e6]; simp [balG, h1, h2]⟩)
  · rintro l X ⟨us, o, hv, e2, hp, e6⟩
    refine ⟨rfl, ?_⟩
    cases us with
    | cons _ _ => cases hv
    | nil =>
      dsimp only
      rw [puts_eq (l := l) [("opens", _)] ⟨e2, trivial⟩]
      refine kOut ((?_ : KT _ ?_) (kF ?_ ?_))
      rotate_left 2
      · intro h0
        repeat1' ((try rw [exL_x] at h0); simp [xthen_next, xthen_ret, xthen_brk, selB_t, selB_f, puts_nil, puts_cons, exL_e, exS_ifK, exS_augK, uV, storesOk, listAt, tupAt, v1, v2, v3, v4, g1, g2, -exS_if, -Int.natCast_pos, -Int.ofNat_lt, -Int.pred_toNat, -Int.toNat_sub', -Option.some.injEq, -Int.natCast_eq_zero, -Bool.not_not, -Int.zero_add, -Int.add_zero, -Int.zero_sub, -Int.sub_neg, -Int.neg_neg, -Int.sub_zero, -Option.map_bind, -bne_self_eq_false, -List.set_append_right, -List.length_replicate, -List.flatten_replicate_singleton, -Nat.one_mul, -Nat.zero_add, -Option.map_map, -List.getElem?_map, -oX_some, -oW_some, -exL_nil, -decide_eq_true_eq, -Bool.or_eq_true, -Bool.and_eq_true, -bne_iff_ne, -beq_iff_eq, -ne_eq, -List.append_assoc, -ge_iff_le, -Int.ofNat_le, -List.length_append, -List.length_map, -List.map_map, -get_len0, -get_lenS, -ints_map, -strs_map, -strs_snoc] at h0)
        exact type_of% h0
      · exact rfl
      intro zK
      clear zK
      refine kk ?_ ?_
      · kernel_rfl
      exact ox_ret (hRet _ _ _ ⟨hp, by rw [← e6]; rfl⟩)
end Mine.L
end
section
/-! Contracts: pieces, numbers, spans, astray. -/
namespace Mine.L
open PySem
set_option maxRecDepth 100000
set_option linter.unusedSimpArgs false

noncomputable def piecesG : List (Int × Str) → Int → Str → List Str → List Str
  | [], _, w, acc => acc ++ [w]
  | (p, u) :: r, rd, w, acc =>
    if u = "(" ∨ u = ")" then piecesG r (rd + u.length) "" (acc ++ [if p ≠ rd + u.length - 1 then w ++ u ++ "?" else w ++ u])
    else piecesG r (rd + u.length) (if p ≠ rd + u.length - 1 then w ++ u ++ "?" else w ++ u) acc
noncomputable def piecesF (t : Str) : List Str := piecesG (uF 0 false t.cps.toList) 0 "" []
theorem uF_two : ∀ (r : List Nat) (p : Nat) (e : Bool), ∀ q ∈ uF p e r, q.2.length ≤ 2
  | [], p, true => by simp [uF, Str.length]
  | [], p, false => by simp [uF]
  | c :: r, p, true => by
    have := uF_two r (p + 1) false
    simp only [uF, List.mem_cons, forall_eq_or_imp]
    exact ⟨by simp [Str.length], this⟩
  | c :: r, p, false => by
    unfold uF
    split
    · exact uF_two r (p + 1) true
    · have := uF_two r (p + 1) false
      simp only [List.mem_cons, forall_eq_or_imp]
      exact ⟨by simp [Str.length], this⟩
theorem pieces_vars : (isVar (fN "_law_pieces") "text" = true ∧ isVar (fN "_law_pieces") "pieces" = true ∧ isVar (fN "_law_pieces") "waiting" = true ∧ isVar (fN "_law_pieces") "read" = true ∧ isVar (fN "_law_pieces") "place" = true ∧ isVar (fN "_law_pieces") "unit" = true) ∧
    isGlob (fN "_law_pieces") "len" = true ∧ isGlob (fN "_law_pieces") "_iter_escaped_chars" = true := by decide +kernel
structure PiecesI (text : Str) (H : AH) (us : List (Int × Str)) (rd : Int) (w : Str) (acc : List Str) (r k : Nat) (l : AL) (X : AH) : Prop where
  e1 : l "read" = some (.int rd)
  e2 : l "waiting" = some (.str w)
  e3 : l "pieces" = some (.ref r)
  hp : H <+: X
  hr : H.length ≤ r
  e5 : X[r]? = some (.list (acc.map AV.str))
  e6 : piecesG us rd w acc = piecesF text
  e7 : k + us.length ≤ 501
  e8 : w.length ≤ 3 * k
  e9 : acc.length ≤ k
  e10 : ∀ q ∈ us, q.2.length ≤ 2
noncomputable def PiecesJ (text : Str) (H : AH) (vs : List (List AV)) (l : AL) (X : AH) : Prop := ∃ us rd w acc r k, vs = us.map uV ∧ PiecesI text H us rd w acc r k l X
theorem len_app (a b : Str) : (a ++ b).length = a.length + b.length := Str.length_append a b
theorem pieces_ok {ns : List Int} {n : Nat} {H : AH} {text : Str} (hz : text.length ≤ 500) :
    oW ((ev true ns (n + 20)).call "_law_pieces" [.str text] H) fun v H' => H <+: H' ∧ ∃ r, v = .ref r ∧ H'[r]? = some (.list ((piecesF text).map .str)) := by
  rw [call_ev (by decide +kernel)]
  refine hide fun zzG zzF => ?_
  obtain ⟨⟨v1, v2, v3, v4, v5, v6⟩, g1, g2⟩ := pieces_vars
  refine zzF ?_
  clear zzF zzG
  refine call_K (ps := ["text"]) (N := fN "_law_pieces") rfl rfl (by decide +kernel) fun P hRet => ?_
  refine kOut ((?_ : KT _ ?_) (kF ?_ ?_))
  rotate_left 2
  · intro h0
    repeat1' ((try rw [exL_x] at h0); simp [xthen_next, xthen_ret, xthen_brk, selB_t, selB_f, puts_nil, puts_cons, exL_e, exS_ifK, storesOk, listAt, tupAt, uV, v1, v2, v3, v4, v5, v6, g1, g2, -exS_if, -Int.natCast_pos, -Int.ofNat_lt, -Int.pred_toNat, -Int.toNat_sub', -Option.some.injEq, -Int.natCast_eq_zero, -Bool.not_not, -Int.zero_add, -Int.add_zero, -Int.zero_sub, -Int.sub_neg, -Int.neg_neg, -Int.sub_zero, -Option.map_bind, -bne_self_eq_false, -List.set_append_right, -List.length_replicate, -List.flatten_replicate_singleton, -Nat.one_mul, -Nat.zero_add, -Option.map_map, -List.getElem?_map, -oX_some, -oW_some, -exL_nil, -decide_eq_true_eq, -Bool.or_eq_true, -Bool.and_eq_true, -bne_iff_ne, -beq_iff_eq, -ne_eq, -List.append_assoc, -ge_iff_le, -Int.ofNat_le, -List.length_append, -List.length_map, -List.map_map, -get_len0, -get_lenS, -ints_map, -strs_map, -strs_snoc] at h0)
    exact type_of% h0
  · exact rfl
  intro zK
  clear zK
  refine kk ?_ ?_
  · kernel_rfl
  rw [exL_cons, exS_for]
  refine it_gen (s := text) (H' := H ++ [.list []]) (by rw [g2]; rfl) rfl (ev_gen_true ns (n + 13)) (by kernel_rfl) ?_
  rw [units_is]
  refine for_K (PiecesJ text H) ?_ ?_ _ _ _ ⟨_, 0, "", [], H.length, 0, rfl, by kernel_rfl, by kernel_rfl, by kernel_rfl, pre_app List.prefix_rfl, Nat.le_refl _, by simp, rfl, ?_, by simp, by simp, fun q hq => uF_two _ _ _ q hq⟩
  · rintro v vs l X ⟨us, rd, w, acc, r, k, hv, e1, e2, e3, hp, hr, e5, e6, e7, e8, e9, e10⟩
    cases us with
    | nil => cases hv
    | cons u us =>
      obtain ⟨pp, c⟩ := u
      cases hv
      refine ⟨rfl, put (put l "place" (.int pp)) "unit" (.str c), by kernel_rfl, fun P' hN _ _ => ?_⟩
      have hc2 : c.length ≤ 2 := e10 _ (.head _)
      have s1 : sizeOk c.length = true := size_le (by omega)
      have s2 : sizeOk (w.length + c.length) = true := size_le (by simp at e7; omega)
      have q1 : (Str.ofString "?").length = 1 := by decide +kernel
      have s3 : sizeOk (w.length + c.length + 1) = true := size_le (by simp at e7; omega)
      have s4 : sizeOk (acc.length + 1) = true := size_le (by simp at e7; omega)
      rw [puts_eq (l := l) [("read", _), ("waiting", _), ("pieces", _)] ⟨e1, e2, e3, trivial⟩]
      repeat
        first
        | refine kOut ((?_ : KT _ ?_) (kF ?_ ?_))
          rotate_left 2
          · intro h0
            repeat1' ((try rw [exL_x] at h0); simp [xthen_next, xthen_ret, xthen_brk, selB_t, selB_f, puts_nil, puts_cons, exL_e, exS_ifK, storesOk, listAt, tupAt, uV, v1, v2, v3, v4, v5, v6, g1, g2, -exS_if, -Int.natCast_pos, -Int.ofNat_lt, -Int.pred_toNat, -Int.toNat_sub', -Option.some.injEq, -Int.natCast_eq_zero, -Bool.not_not, -Int.zero_add, -Int.add_zero, -Int.zero_sub, -Int.sub_neg, -Int.neg_neg, -Int.sub_zero, -Option.map_bind, -bne_self_eq_false, -List.set_append_right, -List.length_replicate, -List.flatten_replicate_singleton, -Nat.one_mul, -Nat.zero_add, -Option.map_map, -List.getElem?_map, -oX_some, -oW_some, -exL_nil, -decide_eq_true_eq, -Bool.or_eq_true, -Bool.and_eq_true, -bne_iff_ne, -beq_iff_eq, -ne_eq, -List.append_assoc, -ge_iff_le, -Int.ofNat_le, -List.length_append, -List.length_map, -List.map_map, -get_len0, -get_lenS, -ints_map, -strs_map, -strs_snoc] at h0)
            exact type_of% h0
          · exact rfl
          intro zK
          clear zK
          refine kk ?_ ?_
          · kernel_rfl
        | simp only [s1, s2, s3, len_app, q1, bi_len_s, bne_self_eq_false, Bool.false_eq_true, if_false, decide_true, assignO_list, lenO_list, lenO_tup, getO_list, getO_tup, List.length_map, Bool.true_or, Bool.or_true, Bool.and_self, Bool.true_and, Bool.and_true, eq_self, if_true]
      generalize hw' : (if pp ≠ rd + c.length - 1 then w ++ c ++ Str.ofString "?" else w ++ c) = w'
      have lw' : w'.length ≤ w.length + c.length + 1 := by
        rw [← hw']
        split <;> simp only [len_app, q1]
        · exact Nat.le_refl _
        · exact Nat.le_succ _
      have he : (if c = "(" ∨ c = ")" then piecesG us (rd + c.length) "" (acc ++ [w']) else piecesG us (rd + c.length) w' acc) = piecesF text := by rw [← hw']; exact e6
      refine xthen_cut (fun l' X' => X' = X ∧ l' "read" = some (.int (rd + c.length)) ∧ l' "pieces" = some (.ref r) ∧ l' "waiting" = some (.str w') ∧ l' "unit" = some (.str c)) (fun P'' hQ => ?_) ?_
      · by_cases h1 : pp = rd + c.length - 1
        · rw [show (pp != rd + c.length - 1) = false from by simp [h1]]
          rw [if_neg (fun h => h h1)] at hw'
          subst hw'
          exact ox_nil (hQ _ _ ⟨rfl, by kernel_rfl, by kernel_rfl, by kernel_rfl, by kernel_rfl⟩)
        · rw [show (pp != rd + c.length - 1) = true from by simp [h1]]
          rw [if_pos h1] at hw'
          subst hw'
          exact ox_nil (hQ _ _ ⟨rfl, by kernel_rfl, by kernel_rfl, by kernel_rfl, by kernel_rfl⟩)
      · rintro l' X' ⟨rfl, e1', e3', e2', e4'⟩
        rw [puts_eq (l := l') [("read", _), ("pieces", _), ("waiting", _), ("unit", _)] ⟨e1', e3', e2', e4', trivial⟩]
        refine kOut ((?_ : KT _ ?_) (kF ?_ ?_))
        rotate_left 2
        · intro h0
          repeat1' ((try rw [exL_x] at h0); simp [xthen_next, xthen_ret, xthen_brk, selB_t, selB_f, puts_nil, puts_cons, exL_e, exS_ifK, storesOk, listAt, tupAt, uV, v1, v2, v3, v4, v5, v6, g1, g2, -exS_if, -Int.natCast_pos, -Int.ofNat_lt, -Int.pred_toNat, -Int.toNat_sub', -Option.some.injEq, -Int.natCast_eq_zero, -Bool.not_not, -Int.zero_add, -Int.add_zero, -Int.zero_sub, -Int.sub_neg, -Int.neg_neg, -Int.sub_zero, -Option.map_bind, -bne_self_eq_false, -List.set_append_right, -List.length_replicate, -List.flatten_replicate_singleton, -Nat.one_mul, -Nat.zero_add, -Option.map_map, -List.getElem?_map, -oX_some, -oW_some, -exL_nil, -decide_eq_true_eq, -Bool.or_eq_true, -Bool.and_eq_true, -bne_iff_ne, -beq_iff_eq, -ne_eq, -List.append_assoc, -ge_iff_le, -Int.ofNat_le, -List.length_append, -List.length_map, -List.map_map, -get_len0, -get_lenS, -ints_map, -strs_map, -strs_snoc] at h0)
          exact type_of% h0
        · exact rfl
        intro zK
        clear zK
        refine kk ?_ ?_
        · kernel_rfl
        rw [show (if (c == Str.ofString "(") = true then some (true, X') else some (c == Str.ofString ")", X')) = some (decide (c = Str.ofString "(" ∨ c = Str.ofString ")"), X') from by
          by_cases q : c = Str.ofString "("
          · rw [if_pos (beq_iff_eq.mpr q), decide_eq_true (Or.inl q)]
          · rw [if_neg (fun h => q (beq_iff_eq.mp h)), show (c == Str.ofString ")") = decide (c = Str.ofString ")") from rfl]; simp [q]]
        by_cases h2 : c = Str.ofString "(" ∨ c = Str.ofString ")"
        · rw [decide_eq_true h2]
          rw [if_pos h2] at he
          repeat
            first
            | refine kOut ((?_ : KT _ ?_) (kF ?_ ?_))
              rotate_left 2
              · intro h0
                repeat1' ((try rw [exL_x] at h0); simp [xthen_next, xthen_ret, xthen_brk, selB_t, selB_f, puts_nil, puts_cons, exL_e, exS_ifK, storesOk, listAt, tupAt, uV, v1, v2, v3, v4, v5, v6, g1, g2, -exS_if, -Int.natCast_pos, -Int.ofNat_lt, -Int.pred_toNat, -Int.toNat_sub', -Option.some.injEq, -Int.natCast_eq_zero, -Bool.not_not, -Int.zero_add, -Int.add_zero, -Int.zero_sub, -Int.sub_neg, -Int.neg_neg, -Int.sub_zero, -Option.map_bind, -bne_self_eq_false, -List.set_append_right, -List.length_replicate, -List.flatten_replicate_singleton, -Nat.one_mul, -Nat.zero_add, -Option.map_map, -List.getElem?_map, -oX_some, -oW_some, -exL_nil, -decide_eq_true_eq, -Bool.or_eq_true, -Bool.and_eq_true, -bne_iff_ne, -beq_iff_eq, -ne_eq, -List.append_assoc, -ge_iff_le, -Int.ofNat_le, -List.length_append, -List.length_map, -List.map_map, -get_len0, -get_lenS, -ints_map, -strs_map, -strs_snoc] at h0)
                exact type_of% h0
              · exact rfl
              intro zK
              clear zK
              refine kk ?_ ?_
              · kernel_rfl
            | simp only [e5, s4, bi_len_s, bne_self_eq_false, Bool.false_eq_true, if_false, decide_true, assignO_list, lenO_list, lenO_tup, getO_list, getO_tup, List.length_map, Bool.true_or, Bool.or_true, Bool.and_self, Bool.true_and, Bool.and_true, eq_self, if_true]
          exact ox_nil (hN _ _ ⟨us, rd + c.length, "", acc ++ [w'], r, k + 1, rfl, by kernel_rfl, by kernel_rfl, by kernel_rfl, pre_set hp hr, hr, by rw [set_get e5]; simp, he, by simp at e7; omega, Nat.zero_le _, by simp; omega, fun q hq => e10 _ (.tail _ hq)⟩)
        · rw [decide_eq_false h2]
          rw [if_neg h2] at he
          refine kOut ((?_ : KT _ ?_) (kF ?_ ?_))
          rotate_left 2
          · intro h0
            repeat1' ((try rw [exL_x] at h0); simp [xthen_next, xthen_ret, xthen_brk, selB_t, selB_f, puts_nil, puts_cons, exL_e, exS_ifK, storesOk, listAt, tupAt, uV, v1, v2, v3, v4, v5, v6, g1, g2, -exS_if, -Int.natCast_pos, -Int.ofNat_lt, -Int.pred_toNat, -Int.toNat_sub', -Option.some.injEq, -Int.natCast_eq_zero, -Bool.not_not, -Int.zero_add, -Int.add_zero, -Int.zero_sub, -Int.sub_neg, -Int.neg_neg, -Int.sub_zero, -Option.map_bind, -bne_self_eq_false, -List.set_append_right, -List.length_replicate, -List.flatten_replicate_singleton, -Nat.one_mul, -Nat.zero_add, -Option.map_map, -List.getElem?_map, -oX_some, -oW_some, -exL_nil, -decide_eq_true_eq, -Bool.or_eq_true, -Bool.and_eq_true, -bne_iff_ne, -beq_iff_eq, -ne_eq, -List.append_assoc, -ge_iff_le, -Int.ofNat_le, -List.length_append, -List.length_map, -List.map_map, -get_len0, -get_lenS, -ints_map, -strs_map, -strs_snoc] at h0)
            exact type_of% h0
          · exact rfl
          intro zK
          clear zK
          refine kk ?_ ?_
          · kernel_rfl
          exact ox_nil (hN _ _ ⟨us, rd + c.length, w', acc, r, k + 1, rfl, by kernel_rfl, by kernel_rfl, by kernel_rfl, hp, hr, e5, he, by simp at e7; omega, by omega, by omega, fun q hq => e10 _ (.tail _ hq)⟩)
  · rintro l X ⟨us, rd, w, acc, r, k, hv, e1, e2, e3, hp, hr, e5, e6, e7, e8, e9, e10⟩
    refine ⟨rfl, ?_⟩
    cases us with
    | cons _ _ => cases hv
    | nil =>
      have s4 : sizeOk (acc.length + 1) = true := size_le (by simp at e7; omega)
      dsimp only
      rw [puts_eq (l := l) [("waiting", _), ("pieces", _)] ⟨e2, e3, trivial⟩]
      have hw0 : (X ++ [AO.list [AV.str w]])[X.length]? = some (AO.list [AV.str w]) := get_len0
      repeat
        first
        | refine kOut ((?_ : KT _ ?_) (kF ?_ ?_))
          rotate_left 2
          · intro h0
            repeat1' ((try rw [exL_x] at h0); simp [xthen_next, xthen_ret, xthen_brk, selB_t, selB_f, puts_nil, puts_cons, exL_e, exS_ifK, storesOk, listAt, tupAt, uV, v1, v2, v3, v4, v5, v6, g1, g2, -exS_if, -Int.natCast_pos, -Int.ofNat_lt, -Int.pred_toNat, -Int.toNat_sub', -Option.some.injEq, -Int.natCast_eq_zero, -Bool.not_not, -Int.zero_add, -Int.add_zero, -Int.zero_sub, -Int.sub_neg, -Int.neg_neg, -Int.sub_zero, -Option.map_bind, -bne_self_eq_false, -List.set_append_right, -List.length_replicate, -List.flatten_replicate_singleton, -Nat.one_mul, -Nat.zero_add, -Option.map_map, -List.getElem?_map, -oX_some, -oW_some, -exL_nil, -decide_eq_true_eq, -Bool.or_eq_true, -Bool.and_eq_true, -bne_iff_ne, -beq_iff_eq, -ne_eq, -List.append_assoc, -ge_iff_le, -Int.ofNat_le, -List.length_append, -List.length_map, -List.map_map, -get_len0, -get_lenS, -ints_map, -strs_map, -strs_snoc] at h0)
            exact type_of% h0
          · exact rfl
          intro zK
          clear zK
          refine kk ?_ ?_
          · kernel_rfl
        | simp only [e5, get_app e5, hw0, s4, List.length_cons, List.length_nil, Nat.zero_add, bi_len_s, bne_self_eq_false, Bool.false_eq_true, if_false, decide_true, assignO_list, lenO_list, lenO_tup, getO_list, getO_tup, List.length_map, Bool.true_or, Bool.or_true, Bool.and_self, Bool.true_and, Bool.and_true, eq_self, if_true]
      have e6' : (piecesF text).map AV.str = acc.map AV.str ++ [AV.str w] := by rw [← e6]; simp [piecesG]
      refine ox_ret (hRet _ _ _ ⟨pre_app (pre_app hp), _, rfl, ?_⟩)
      rw [e6']
      exact get_len0
  · have := uF_len text.cps.toList 0 false
    have : text.cps.toList.length = text.length := by simp [Str.length]
    simp; omega
end Mine.L
end
section
/-! Contracts: numbers, spans, astray. -/
namespace Mine.L
open PySem
set_option maxRecDepth 100000
set_option linter.unusedSimpArgs false

noncomputable def numsF (ns : List Int) : List Int := (ns.take 7).map (·.fmod 8) ++ [2, 4, 3, 0, 7, 1].drop (ns.take 7).length
theorem numbers_vars : (isVar (fN "_law_numbers") "script" = true ∧ isVar (fN "_law_numbers") "drawn" = true) ∧ isGlob (fN "_law_numbers") "len" = true := by decide +kernel
theorem numbers_ok {ns : List Int} {n : Nat} {H : AH} (hz : ns.length ≤ 100) :
    oW ((ev true ns (n + 20)).call "_law_numbers" [.scr] H) fun v H' => H <+: H' ∧ ∃ r, v = .ref r ∧ H'[r]? = some (.list ((numsF ns).map .int)) := by
  rw [call_ev (by decide +kernel)]
  obtain ⟨⟨v1, v2⟩, g1⟩ := numbers_vars
  refine call_of (ps := ["script"]) (N := fN "_law_numbers") rfl rfl (by decide +kernel) ?_
  have hF : numsF ns = (ns.take 7).map (·.fmod 8) ++ [2, 4, 3, 0, 7, 1].drop (ns.take 7).length := rfl
  have hlen : (ns.take 7).length ≤ 7 := by simp; omega
  have hpick : pickL (ns.map AV.int) none (some 7) none = (ns.take 7).map AV.int := by
    have := pickL_take (ns.map AV.int) 7
    rw [List.map_take]
    exact this
  rw [hF]
  generalize ns.take 7 = d at hlen hpick
  rw [x_ev, exL_cons, exS_ncomp v2, oX_bind]
  refine ev_comp (by decide +kernel) (it_list rfl rfl (k := H.length) (H' := H ++ [.list (d.map .int)]) (x := d.map .int) ?_ (by simp) ?_)
  · simp [v1, alloc, hpick]
  · rw [List.map_map]
    refine ⟨_, comp_map (H₀ := H ++ [.list (d.map .int)]) _ (fun _ => True) (fun x => .int (x.fmod 8)) (fun X => by simp) _ _ trivial (by omega) ?_, ?_⟩
    · intro a ha lc _
      simp [isVar, compNames, List.lookup_cons]
    · have p6 := pickL_drop ([.int 2, .int 4, .int 3, .int 0, .int 7, .int 1] : List AV) d.length
      have hs : sizeOk d.length = true := size_le (by omega)
      have hs2 : sizeOk (d.length + (6 - d.length)) = true := size_le (by omega)
      try simp [v1, v2, g1, alloc, hs, listAt, hs2, p6, size_le]
      repeat (rw [exL_cons]; simp [v1, v2, g1, alloc, hs, listAt, hs2, p6, size_le])

noncomputable def spansB (raw : List Str) (j i : Nat) : Bool := checkF (raw.getD i "" ++ raw.getD j "")
noncomputable def spansR (raw : List Str) (j : Nat) : Nat → List Int
  | 0 => []
  | m + 1 => spansR raw j m ++ if spansB raw j m then [(j : Int) - (m : Int)] else []
noncomputable def spansA (raw : List Str) : Nat → List Int
  | 0 => []
  | j + 1 => spansA raw j ++ spansR raw j j
noncomputable def spansF (raw : List Str) : List Int := spansA raw raw.length
theorem spansR_len (raw : List Str) (j : Nat) : ∀ m, (spansR raw j m).length ≤ m
  | 0 => Nat.le_refl _
  | m + 1 => by
    have := spansR_len raw j m
    unfold spansR
    rw [List.length_append]
    split <;> simp <;> omega
theorem spansA_len (raw : List Str) : ∀ j, j ≤ 50 → (spansA raw j).length ≤ j * 50
  | 0, _ => Nat.le_refl _
  | j + 1, h => by
    have := spansA_len raw j (by omega)
    have := spansR_len raw j j
    unfold spansA
    rw [List.length_append]
    omega
theorem spans_vars : (isVar (fN "_law_spans") "raw" = true ∧ isVar (fN "_law_spans") "spans" = true ∧ isVar (fN "_law_spans") "j" = true ∧ isVar (fN "_law_spans") "i" = true ∧ isVar (fN "_law_spans") "told" = true) ∧ isGlob (fN "_law_spans") "len" = true ∧ isGlob (fN "_law_spans") "range" = true ∧ isGlob (fN "_law_spans") "_check_parenthesis" = true := by decide +kernel
structure SpansI (H : AH) (k : Nat) (acc : List Int) (r : Nat) (l : AL) (X : AH) : Prop where
  e1 : l "raw" = some (.ref k)
  e2 : l "spans" = some (.ref r)
  hp : H <+: X
  hr : H.length ≤ r
  e5 : X[r]? = some (.list (acc.map AV.int))
noncomputable def SpansJ (H : AH) (k : Nat) (acc : List Int) (l : AL) (X : AH) : Prop := ∃ r, SpansI H k acc r l X
theorem spansJ_of {H : AH} {k : Nat} {acc : List Int} {l : AL} {X : AH} (r : Nat) (h : SpansI H k acc r l X) : SpansJ H k acc l X := ⟨r, h⟩
structure SpansK (H : AH) (k j : Nat) (a : List Int) (l : AL) (X : AH) : Prop where
  a1 : SpansJ H k a l X
  a2 : l "j" = some (.int j)
theorem spans_ok {ns : List Int} {n : Nat} {H : AH} {k : Nat} {raw : List Str} (hk : H[k]? = some (.list (raw.map AV.str))) (hz : raw.length ≤ 50) (hz2 : ∀ x ∈ raw, x.length ≤ 100) :
    oW ((ev true ns (n + 40)).call "_law_spans" [.ref k] H) fun v H' => H <+: H' ∧ ∃ r, v = .ref r ∧ H'[r]? = some (.list ((spansF raw).map .int)) := by
  rw [call_ev (by decide +kernel)]
  refine hide fun hG hF => ?_
  obtain ⟨⟨v1, v2, v3, v4, v5⟩, g1, g2, g3⟩ := spans_vars
  refine hF ?_
  clear hF hG
  refine call_K (ps := ["raw"]) (N := fN "_law_spans") rfl rfl (by decide +kernel) fun P hRet => ?_
  have hs : sizeOk raw.length = true := size_le (by omega)
  have hsm : small raw.length = true := small_lit (by omega) (by omega)
  refine kOut ((?_ : KT _ ?_) (kF ?_ ?_))
  rotate_left 2
  · intro h0
    repeat1' ((try rw [exL_x] at h0); simp [xthen_next, xthen_ret, xthen_brk, selB_t, selB_f, puts_nil, puts_cons, exL_e, exS_ifK, storesOk, listAt, tupAt, v1, v2, v3, v4, v5, g1, g2, g3, -exS_if, -Int.natCast_pos, -Int.ofNat_lt, -Int.pred_toNat, -Int.toNat_sub', -Option.some.injEq, -Int.natCast_eq_zero, -Bool.not_not, -Int.zero_add, -Int.add_zero, -Int.zero_sub, -Int.sub_neg, -Int.neg_neg, -Int.sub_zero, -Option.map_bind, -bne_self_eq_false, -List.set_append_right, -List.length_replicate, -List.flatten_replicate_singleton, -Nat.one_mul, -Nat.zero_add, -Option.map_map, -List.getElem?_map, -oX_some, -oW_some, -exL_nil, -decide_eq_true_eq, -Bool.or_eq_true, -Bool.and_eq_true, -bne_iff_ne, -beq_iff_eq, -ne_eq, -List.append_assoc, -ge_iff_le, -Int.ofNat_le, -List.length_append, -List.length_map, -List.map_map, -get_len0, -get_lenS, -ints_map, -strs_map, -strs_snoc] at h0)
    exact type_of% h0
  · exact rfl
  intro zK
  clear zK
  refine kk ?_ ?_
  · kernel_rfl
  rw [exL_cons, exS_for]
  refine it_range1 (by rw [g2]; rfl) rfl ?_
  simp [v1, g1, get_app hk, hs, hsm]
  refine for_rangeK (n := raw.length) (fun j l X => SpansJ H k (spansA raw j) l X) ?_ ?_ _ _ (spansJ_of H.length ⟨by simp, by simp, pre_app List.prefix_rfl, Nat.le_refl _, by simp [spansA]⟩) (by simp)
  · rintro j l X hj ⟨r, e1, e2, hp, hr, e5⟩
    refine ⟨rfl, _, bindT_name v3, fun P' hN hR => ?_⟩
    clear hR
    rw [Int.zero_add]
    have hsj : small (j : Int) = true := small_lit (by omega) (by omega)
    have hal := spansA_len raw j (by omega)
    have hac : spansA raw (j + 1) = spansA raw j ++ spansR raw j j := rfl
    replace hN : ∀ l' X', SpansJ H k (spansA raw j ++ spansR raw j j) l' X' → P' .next l' X' := hN
    clear hac
    generalize spansA raw j = acc at e5 hal hN
    rw [exL_cons, exS_for]
    refine it_range1 (by rw [g2]; rfl) rfl ?_
    simp [v3, hsj]
    refine for_rangeK (n := j) (fun i l X => SpansK H k j (acc ++ spansR raw j i) l X) ?_ ?_ _ _ ⟨spansJ_of r ⟨by simp [e1], by simp [e2], hp, hr, by simpa [spansR] using e5⟩, by simp⟩ (by simp)
    · rintro i l X hi ⟨⟨r, e1, e2, hp, hr, e5⟩, e3⟩
      refine ⟨rfl, _, bindT_name v4, fun P'' hN2 hR2 => ?_⟩
      clear hR2 hN
      rw [Int.zero_add]
      rw [puts_eq (l := l) [("raw", _), ("spans", _), ("j", _)] ⟨e1, e2, e3, trivial⟩]
      have hsi : small (i : Int) = true := small_lit (by omega) (by omega)
      have q1 : (raw.map AV.str)[i]? = some (.str (raw.getD i "")) := by simp [List.getElem?_eq_getElem (show i < raw.length by omega), show i < raw.length by omega]
      have q2 : (raw.map AV.str)[j]? = some (.str (raw.getD j "")) := by simp [List.getElem?_eq_getElem hj, hj]
      have l1 : (raw.getD i "").length ≤ 100 := by
        have : raw.getD i "" ∈ raw := by simp [show i < raw.length by omega]
        exact hz2 _ this
      have l2 : (raw.getD j "").length ≤ 100 := by
        have : raw.getD j "" ∈ raw := by simp [hj]
        exact hz2 _ this
      have hz3 := spansR_len raw j i
      have hz4 : spansR raw j (i + 1) = spansR raw j i ++ if checkF (raw.getD i "" ++ raw.getD j "") then [(j : Int) - (i : Int)] else [] := rfl
      replace hN2 : ∀ l' X', SpansK H k j (acc ++ (spansR raw j i ++ if checkF (raw.getD i "" ++ raw.getD j "") then [(j : Int) - (i : Int)] else [])) l' X' → P'' .next l' X' := hN2
      clear hz4
      generalize raw.getD i "" = p at q1 l1 hN2
      generalize raw.getD j "" = q at q2 l2 hN2
      have hs1 : sizeOk (p.length + q.length) = true := size_le (by omega)
      generalize spansR raw j i = cur at e5 hz3 hN2
      have hs2 : sizeOk (acc.length + cur.length + 1) = true := size_le (by omega)
      repeat
        first
        | refine kOut ((?_ : KT _ ?_) (kF ?_ ?_))
          rotate_left 2
          · intro h0
            repeat1' ((try rw [exL_x] at h0); simp [xthen_next, xthen_ret, xthen_brk, selB_t, selB_f, puts_nil, puts_cons, exL_e, exS_ifK, storesOk, listAt, tupAt, v1, v2, v3, v4, v5, g1, g2, g3, -exS_if, -Int.natCast_pos, -Int.ofNat_lt, -Int.pred_toNat, -Int.toNat_sub', -Option.some.injEq, -Int.natCast_eq_zero, -Bool.not_not, -Int.zero_add, -Int.add_zero, -Int.zero_sub, -Int.sub_neg, -Int.neg_neg, -Int.sub_zero, -Option.map_bind, -bne_self_eq_false, -List.set_append_right, -List.length_replicate, -List.flatten_replicate_singleton, -Nat.one_mul, -Nat.zero_add, -Option.map_map, -List.getElem?_map, -oX_some, -oW_some, -exL_nil, -decide_eq_true_eq, -Bool.or_eq_true, -Bool.and_eq_true, -bne_iff_ne, -beq_iff_eq, -ne_eq, -List.append_assoc, -ge_iff_le, -Int.ofNat_le, -List.length_append, -List.length_map, -List.map_map, -get_len0, -get_lenS, -ints_map, -strs_map, -strs_snoc] at h0)
            exact type_of% h0
          · exact rfl
          intro zK
          clear zK
          refine kk ?_ ?_
          · kernel_rfl
        | simp only [pre_at hp hk, hsi, hsj, q1, q2, hs1, bi_len_s, bne_self_eq_false, Bool.false_eq_true, if_false, decide_true, assignO_list, lenO_list, lenO_tup, getO_list, getO_tup, List.length_map, Bool.true_or, Bool.or_true, Bool.and_self, Bool.true_and, Bool.and_true, eq_self, if_true]
      try with_reducible refine ox_bindI ?_
      repeat with_reducible refine oW_bindI ?_
      refine oW_mono (check_ok (by rw [len_app]; omega)) ?_
      rintro v H' ⟨hp', rfl⟩
      have e5' := pre_at hp' e5
      have hs2' : sizeOk ((acc ++ cur).length + 1) = true := by rw [List.length_append]; exact hs2
      cases hck : checkF (p ++ q) with
      | true =>
        rw [hck, if_pos rfl, ← List.append_assoc] at hN2
        generalize acc ++ cur = ac at e5' hs2' hN2
        repeat
          first
          | refine kOut ((?_ : KT _ ?_) (kF ?_ ?_))
            rotate_left 2
            · intro h0
              repeat1' ((try rw [exL_x] at h0); simp [xthen_next, xthen_ret, xthen_brk, selB_t, selB_f, puts_nil, puts_cons, exL_e, exS_ifK, storesOk, listAt, tupAt, v1, v2, v3, v4, v5, g1, g2, g3, -exS_if, -Int.natCast_pos, -Int.ofNat_lt, -Int.pred_toNat, -Int.toNat_sub', -Option.some.injEq, -Int.natCast_eq_zero, -Bool.not_not, -Int.zero_add, -Int.add_zero, -Int.zero_sub, -Int.sub_neg, -Int.neg_neg, -Int.sub_zero, -Option.map_bind, -bne_self_eq_false, -List.set_append_right, -List.length_replicate, -List.flatten_replicate_singleton, -Nat.one_mul, -Nat.zero_add, -Option.map_map, -List.getElem?_map, -oX_some, -oW_some, -exL_nil, -decide_eq_true_eq, -Bool.or_eq_true, -Bool.and_eq_true, -bne_iff_ne, -beq_iff_eq, -ne_eq, -List.append_assoc, -ge_iff_le, -Int.ofNat_le, -List.length_append, -List.length_map, -List.map_map, -get_len0, -get_lenS, -ints_map, -strs_map, -strs_snoc] at h0)
              exact type_of% h0
            · exact rfl
            intro zK
            clear zK
            refine kk ?_ ?_
            · kernel_rfl
          | simp only [e5', hs2', bi_len_s, bne_self_eq_false, Bool.false_eq_true, if_false, decide_true, assignO_list, lenO_list, lenO_tup, getO_list, getO_tup, List.length_map, Bool.true_or, Bool.or_true, Bool.and_self, Bool.true_and, Bool.and_true, eq_self, if_true]
        exact ox_nil (hN2 _ _ ⟨spansJ_of r ⟨by kernel_rfl, by kernel_rfl, pre_set (hp.trans hp') hr, hr, by rw [set_get e5']; simp⟩, by kernel_rfl⟩)
      | false =>
        rw [hck, if_neg Bool.false_ne_true, List.append_nil] at hN2
        refine kOut ((?_ : KT _ ?_) (kF ?_ ?_))
        rotate_left 2
        · intro h0
          repeat1' ((try rw [exL_x] at h0); simp [xthen_next, xthen_ret, xthen_brk, selB_t, selB_f, puts_nil, puts_cons, exL_e, exS_ifK, storesOk, listAt, tupAt, v1, v2, v3, v4, v5, g1, g2, g3, -exS_if, -Int.natCast_pos, -Int.ofNat_lt, -Int.pred_toNat, -Int.toNat_sub', -Option.some.injEq, -Int.natCast_eq_zero, -Bool.not_not, -Int.zero_add, -Int.add_zero, -Int.zero_sub, -Int.sub_neg, -Int.neg_neg, -Int.sub_zero, -Option.map_bind, -bne_self_eq_false, -List.set_append_right, -List.length_replicate, -List.flatten_replicate_singleton, -Nat.one_mul, -Nat.zero_add, -Option.map_map, -List.getElem?_map, -oX_some, -oW_some, -exL_nil, -decide_eq_true_eq, -Bool.or_eq_true, -Bool.and_eq_true, -bne_iff_ne, -beq_iff_eq, -ne_eq, -List.append_assoc, -ge_iff_le, -Int.ofNat_le, -List.length_append, -List.length_map, -List.map_map, -get_len0, -get_lenS, -ints_map, -strs_map, -strs_snoc] at h0)
          exact type_of% h0
        · exact rfl
        intro zK
        clear zK
        refine kk ?_ ?_
        · kernel_rfl
        exact ox_nil (hN2 _ _ ⟨spansJ_of r ⟨by kernel_rfl, by kernel_rfl, hp.trans hp', hr, e5'⟩, by kernel_rfl⟩)
    · rintro l X ⟨⟨r, e1, e2, hp, hr, e5⟩, e3⟩
      exact ⟨rfl, hN _ _ (spansJ_of r ⟨e1, e2, hp, hr, e5⟩)⟩
  · rintro l X ⟨r, e1, e2, hp, hr, e5⟩
    refine ⟨rfl, ?_⟩
    dsimp only
    rw [puts_eq (l := l) [("spans", _)] ⟨e2, trivial⟩]
    refine kOut ((?_ : KT _ ?_) (kF ?_ ?_))
    rotate_left 2
    · intro h0
      repeat1' ((try rw [exL_x] at h0); simp [xthen_next, xthen_ret, xthen_brk, selB_t, selB_f, puts_nil, puts_cons, exL_e, exS_ifK, storesOk, listAt, tupAt, v1, v2, v3, v4, v5, g1, g2, g3, -exS_if, -Int.natCast_pos, -Int.ofNat_lt, -Int.pred_toNat, -Int.toNat_sub', -Option.some.injEq, -Int.natCast_eq_zero, -Bool.not_not, -Int.zero_add, -Int.add_zero, -Int.zero_sub, -Int.sub_neg, -Int.neg_neg, -Int.sub_zero, -Option.map_bind, -bne_self_eq_false, -List.set_append_right, -List.length_replicate, -List.flatten_replicate_singleton, -Nat.one_mul, -Nat.zero_add, -Option.map_map, -List.getElem?_map, -oX_some, -oW_some, -exL_nil, -decide_eq_true_eq, -Bool.or_eq_true, -Bool.and_eq_true, -bne_iff_ne, -beq_iff_eq, -ne_eq, -List.append_assoc, -ge_iff_le, -Int.ofNat_le, -List.length_append, -List.length_map, -List.map_map, -get_len0, -get_lenS, -ints_map, -strs_map, -strs_snoc] at h0)
      exact type_of% h0
    · exact rfl
    intro zK
    clear zK
    refine kk ?_ ?_
    · kernel_rfl
    exact ox_ret (hRet _ _ _ ⟨hp, r, rfl, e5⟩)
end Mine.L
end
section
/-! Contracts: astray. -/
namespace Mine.L
open PySem
set_option maxRecDepth 100000
set_option linter.unusedSimpArgs false

noncomputable def lastC (s : Str) : Nat := s.cps.toList.getLast?.getD 0
noncomputable def lastS (s : Str) : Str := ⟨#[lastC s]⟩
theorem get_last {s : Str} {H : AH} (h : 0 < s.length) : getItem (.str s) (.int (-1)) H = some (.str (lastS s), H) := by
  have hs : small (-1) = true := small_lit (by decide) (by decide)
  have e : seqIndex? (-1) s.length = some (s.length - 1) := by
    unfold seqIndex?
    simp only [show ((-1 : Int) < 0) = True from by simp, if_true]
    rw [if_pos (by simp; omega)]
    congr 1
    omega
  have hl : s.cps.toList.length = s.length := by simp [Str.length]
  have q : s.cps[s.length - 1]? = some (lastC s) := by
    unfold lastC
    rw [← Array.getElem?_toList, List.getLast?_eq_getElem?, hl]
    have : s.length - 1 < s.cps.toList.length := by omega
    rw [List.getElem?_eq_getElem this]
    rfl
  rw [get_s, hs, if_pos rfl, e]
  simp only [Option.bind_some, q, Option.map_some]
  rfl
theorem joinS_len : ∀ l : List Str, (joinS l).length = sumLen l
  | [] => rfl
  | x :: r => by
    show (x ++ joinS r).length = _
    rw [len_app, joinS_len r]; rfl
theorem sumLen_le (c : Nat) : ∀ l : List Str, (∀ x ∈ l, x.length ≤ c) → sumLen l ≤ l.length * c
  | [], _ => Nat.zero_le _
  | x :: r, h => by
    have h1 := h x (.head _)
    have h2 := sumLen_le c r fun y hy => h y (.tail _ hy)
    simp only [sumLen, List.length_cons, Nat.add_mul, Nat.one_mul]
    omega
theorem mulS_len1 {s : Str} (h : s.length = 1) (n : Int) : (mulS s n).length = n.toNat := by
  unfold mulS Str.length
  rw [List.size_toArray, List.length_flatten, List.map_replicate, List.sum_replicate_nat]
  have : s.cps.toList.length = 1 := by rw [← h]; simp [Str.length]
  rw [this, Nat.mul_one]
theorem pickL_mem {α : Type} {l : List α} {lo hi st : Option Int} {x : α} (h : x ∈ pickL l lo hi st) : x ∈ l := by
  unfold pickL at h
  rw [List.mem_filterMap] at h
  obtain ⟨i, _, h⟩ := h
  exact List.mem_of_getElem? h

noncomputable def ownF (raw : List Str) (size k : Nat) : List Str := pickL raw (some (k : Int)) none (some (size : Int))
noncomputable def plainF (own : List Str) : Str := joinS (own.map lastS)
noncomputable def upF (own : List Str) : Nat := ((plainF own).cps.toList.filter fun c => (⟨#[c]⟩ : Str) == ")").length
noncomputable def badF (own : List Str) : Bool := decide (0 < upF own) && decide (upF own < own.length) && (checkF (mulS "(" ((upF own : Nat) - 1 : Int) ++ joinS own ++ mulS ")" ((own.length : Int) - (upF own : Nat) - 1)) != inS "()" (plainF own))
theorem astray_vars : (isVar (fN "_law_astray") "raw" = true ∧ isVar (fN "_law_astray") "size" = true ∧ isVar (fN "_law_astray") "k" = true ∧ isVar (fN "_law_astray") "own" = true ∧ isVar (fN "_law_astray") "plain" = true ∧ isVar (fN "_law_astray") "up" = true ∧ isVar (fN "_law_astray") "due" = true ∧ isVar (fN "_law_astray") "told" = true) ∧ isGlob (fN "_law_astray") "len" = true ∧ isGlob (fN "_law_astray") "range" = true ∧ isGlob (fN "_law_astray") "_check_parenthesis" = true := by decide +kernel
structure AstI (H : AH) (k : Nat) (size : Nat) (l : AL) (X : AH) : Prop where
  e1 : l "raw" = some (.ref k)
  e2 : l "size" = some (.int size)
  hp : H <+: X
theorem ox_bind2I {α : Type} {P : AF → AL → AH → Prop} {k k2 : AL → AH → Option (AF × AL × AH)} {o : Option (α × AH)} {f : α → AH → Option (AF × AL × AH)} (h : oW o fun v H => oX (xthen (xthen (f v H) k) k2) P) : oX (xthen (xthen (obind o f) k) k2) P := by
  obtain ⟨v, H', rfl, h⟩ := h
  exact h
theorem ast_i1 (a : Nat) : ((a : Int) - 1).toNat = a - 1 := by simp only [Int.pred_toNat, Int.toNat_natCast]
theorem ast_i2 (o a : Nat) : ((o : Int) - a - 1).toNat = o - a - 1 := by simp only [Int.pred_toNat, Int.toNat_sub', Int.toNat_natCast]
theorem ast_s1 {a : Nat} (h : a ≤ 10) : small ((a : Int) - 1) = true := small_lit (by omega) (by omega)
theorem ast_s2 {o a : Nat} (h : a ≤ 10) (h' : o ≤ 10) : small ((o : Int) - a - 1) = true := small_lit (by omega) (by omega)
theorem ast_len {x y z : Nat} (h1 : x ≤ 10) (h2 : y ≤ 200) (h3 : z ≤ 10) : x + y + z ≤ 500 := Nat.le_trans (Nat.add_le_add (Nat.add_le_add h1 h2) h3) (by decide)
theorem astray_ok {ns : List Int} {n : Nat} {H : AH} {k size : Nat} {raw : List Str} (hk : H[k]? = some (.list (raw.map AV.str))) (hz : raw.length ≤ 10) (hz2 : ∀ x ∈ raw, x.length ≤ 20) (hz3 : ∀ x ∈ raw, 0 < x.length)
    (hsz : 0 < size) (hsz2 : size ≤ 100) (ho : ∀ k, k < size → (ownF raw size k).length ≤ 10) (hb : ∀ k, k < size → badF (ownF raw size k) = false) :
    oW ((ev true ns (n + 40)).call "_law_astray" [.ref k, .int size] H) fun v H' => H <+: H' ∧ v = .bool false := by
  rw [call_ev (by decide +kernel)]
  refine hide fun hG hF => ?_
  obtain ⟨⟨v1, v2, v3, v4, v5, v6, v7, v8⟩, g1, g2, g3⟩ := astray_vars
  refine hF ?_
  clear hF hG
  refine call_K (ps := ["raw", "size"]) (N := fN "_law_astray") rfl rfl (by decide +kernel) fun P hRet => ?_
  have hsm : small size = true := small_lit (by omega) (by omega)
  rw [x_ev, exL_cons, exS_for]
  refine it_range1 (by rw [g2]; rfl) rfl ?_
  simp [v2, hsm]
  refine for_rangeK (n := size) (fun j l X => AstI H k size l X) ?_ ?_ _ _ ⟨by simp, by simp, List.prefix_rfl⟩ (by simp)
  · rintro j l X hj ⟨e1, e2, hp⟩
    refine ⟨rfl, _, bindT_name v3, fun P' hN hR => ?_⟩
    clear hR
    rw [Int.zero_add]
    rw [puts_eq (l := l) [("raw", _), ("size", _)] ⟨e1, e2, trivial⟩]
    have hsj : small (j : Int) = true := small_lit (by omega) (by omega)
    have hown := ho j hj
    have hbad := hb j hj
    have hm : ∀ x ∈ ownF raw size j, x ∈ raw := fun x hx => pickL_mem hx
    have hpick : pickL (raw.map AV.str) (some (j : Int)) none (some (size : Int)) = (ownF raw size j).map AV.str := by rw [pickL_map]; rfl
    generalize ownF raw size j = own at hown hbad hm hpick
    have hsl : sizeOk raw.length = true := size_le (by omega)
    have hne : ¬ ((size : Int) = 0) := by omega
    have hne' : ¬ (size = 0) := by omega
    rw [exL_cons]
    simp [storesOk, puts_cons, puts_nil, v1, v2, v3, v4, v5, g1, g3, listAt, pre_at hp hk, hsl, alloc, hpick, hne, hne']
    have ho5 := get_len0 (X := X) (L := [.list (own.map AV.str)])
    have hpx := pre_app (L := [.list (own.map AV.str)]) hp
    generalize hr : X.length = r at ho5
    generalize X ++ [.list (own.map AV.str)] = X1 at ho5 hpx
    refine kOut ((?_ : KT _ ?_) (kF ?_ ?_))
    rotate_left 2
    · intro h0
      repeat1' ((try rw [exL_x] at h0); simp [xthen_next, xthen_ret, xthen_brk, selB_t, selB_f, puts_nil, puts_cons, exL_e, exS_ifK, alloc, storesOk, listAt, tupAt, v1, v2, v3, v4, v5, v6, v7, v8, g1, g2, g3, -exS_if, -Int.natCast_pos, -Int.ofNat_lt, -Int.pred_toNat, -Int.toNat_sub', -Option.some.injEq, -Int.natCast_eq_zero, -Bool.not_not, -Int.zero_add, -Int.add_zero, -Int.zero_sub, -Int.sub_neg, -Int.neg_neg, -Int.sub_zero, -Option.map_bind, -bne_self_eq_false, -List.set_append_right, -List.length_replicate, -List.flatten_replicate_singleton, -Nat.one_mul, -Nat.zero_add, -Option.map_map, -List.getElem?_map, -oX_some, -oW_some, -exL_nil, -decide_eq_true_eq, -Bool.or_eq_true, -Bool.and_eq_true, -bne_iff_ne, -beq_iff_eq, -ne_eq, -List.append_assoc, -ge_iff_le, -Int.ofNat_le, -List.length_append, -List.length_map, -List.map_map, -get_len0, -get_lenS, -ints_map, -strs_map, -strs_snoc] at h0)
      exact type_of% h0
    · exact rfl
    intro zK
    clear zK
    refine kk ?_ ?_
    · kernel_rfl
    try with_reducible refine ox_bindI ?_
    repeat with_reducible refine oW_bindI ?_
    rw [e_comp]
    refine ev_comp (by decide +kernel) (it_list rfl rfl (k := r) (H' := X1) (x := own.map AV.str) (by simp [v4]) ho5 ?_)
    rw [List.map_map]
    refine ⟨_, comp_map (H₀ := X1) _ (fun _ => True) (fun x => .str (lastS x)) (fun Z => by simp [get_app ho5]) _ _ trivial (by omega) ?_, ?_⟩
    · intro x hx lc _
      simp [isVar, compNames, List.lookup_cons, get_last (hz3 x (hm x hx)), -get_s]
    · rw [show (own.map fun x => AV.str (lastS x)) = (own.map lastS).map AV.str by simp]
      have ho6 : (X1 ++ [AO.list ((own.map lastS).map AV.str)])[r]? = some (.list (own.map AV.str)) := get_app ho5
      have hpx2 := pre_app (L := [AO.list ((own.map lastS).map AV.str)]) hpx
      have hl := get_len0 (X := X1) (L := [AO.list ((own.map lastS).map AV.str)])
      generalize X1.length = r1 at hl
      generalize X1 ++ [AO.list ((own.map lastS).map AV.str)] = X2 at ho6 hpx2 hl
      have hs1 : sizeOk (sumLen (own.map lastS)) = true := size_le (by
        have := sumLen_le 1 (own.map lastS) (by simp [lastS, Str.length])
        simp at this; omega)
      have hpl : joinS (own.map lastS) = plainF own := rfl
      have hpll : (plainF own).length ≤ 10 := by
        rw [← hpl, joinS_len]
        have := sumLen_le 1 (own.map lastS) (by simp [lastS, Str.length])
        simp at this; omega
      simp only [List.getElem?_cons_zero] at hl
      repeat
        first
        | refine kOut ((?_ : KT _ ?_) (kF ?_ ?_))
          rotate_left 2
          · intro h0
            repeat1' ((try rw [exL_x] at h0); simp [xthen_next, xthen_ret, xthen_brk, selB_t, selB_f, puts_nil, puts_cons, exL_e, exS_ifK, alloc, storesOk, listAt, tupAt, v1, v2, v3, v4, v5, v6, v7, v8, g1, g2, g3, -exS_if, -Int.natCast_pos, -Int.ofNat_lt, -Int.pred_toNat, -Int.toNat_sub', -Option.some.injEq, -Int.natCast_eq_zero, -Bool.not_not, -Int.zero_add, -Int.add_zero, -Int.zero_sub, -Int.sub_neg, -Int.neg_neg, -Int.sub_zero, -Option.map_bind, -bne_self_eq_false, -List.set_append_right, -List.length_replicate, -List.flatten_replicate_singleton, -Nat.one_mul, -Nat.zero_add, -Option.map_map, -List.getElem?_map, -oX_some, -oW_some, -exL_nil, -decide_eq_true_eq, -Bool.or_eq_true, -Bool.and_eq_true, -bne_iff_ne, -beq_iff_eq, -ne_eq, -List.append_assoc, -ge_iff_le, -Int.ofNat_le, -List.length_append, -List.length_map, -List.map_map, -get_len0, -get_lenS, -ints_map, -strs_map, -strs_snoc] at h0)
            exact type_of% h0
          · exact rfl
          intro zK
          clear zK
          refine kk ?_ ?_
          · kernel_rfl
        | simp only [oW_some, hl, strs_map, Option.map_some, hs1, hpl, bi_len_s, bne_self_eq_false, Bool.false_eq_true, if_false, decide_true, assignO_list, lenO_list, lenO_tup, getO_list, getO_tup, List.length_map, Bool.true_or, Bool.or_true, Bool.and_self, Bool.true_and, Bool.and_true, eq_self, if_true]
      try with_reducible refine ox_bindI ?_
      repeat with_reducible refine oW_bindI ?_
      rw [e_comp]
      refine ev_comp (by decide +kernel) (it_str rfl rfl (s := plainF own) (H' := X2) (by simp [v5]) ?_)
      have hup : ((plainF own).cps.toList.filter fun c => (⟨#[c]⟩ : Str) == ")").length = upF own := rfl
      have hcl : (plainF own).cps.toList.length = (plainF own).length := by simp [Str.length]
      refine ⟨_, comp_pure (H₀ := X2) (fun c => [AV.str ⟨#[c]⟩]) (fun _ => True) (fun c => (⟨#[c]⟩ : Str) == ")") (fun c => AV.str ⟨#[c]⟩) (fun Z => rfl) _ [] _ trivial (by simp only [List.length_nil, hcl]; omega) ?_, ?_⟩
      · intro x hx lc _
        simp [isVar, compNames, List.lookup_cons]
      · rw [List.nil_append]
        generalize hfl : ((plainF own).cps.toList.filter fun c => (⟨#[c]⟩ : Str) == ")") = fl at hup
        have ho7 : (X2 ++ [AO.list (fl.map fun c => AV.str ⟨#[c]⟩)])[r]? = some (.list (own.map AV.str)) := get_app ho6
        have hpx3 := pre_app (L := [AO.list (fl.map fun c => AV.str ⟨#[c]⟩)]) hpx2
        have hl2 := get_len0 (X := X2) (L := [AO.list (fl.map fun c => AV.str ⟨#[c]⟩)])
        generalize X2.length = r2 at hl2
        generalize X2 ++ [AO.list (fl.map fun c => AV.str ⟨#[c]⟩)] = X3 at ho7 hpx3 hl2
        simp only [List.getElem?_cons_zero] at hl2
        have hfll : fl.length ≤ 10 := by
          rw [← hfl]
          have := List.length_filter_le (fun c => (⟨#[c]⟩ : Str) == ")") (plainF own).cps.toList
          omega
        have hs2 : sizeOk fl.length = true := size_le (by omega)
        have hs3 : sizeOk own.length = true := size_le (by omega)
        repeat
          first
          | refine kOut ((?_ : KT _ ?_) (kF ?_ ?_))
            rotate_left 2
            · intro h0
              repeat1' ((try rw [exL_x] at h0); simp [xthen_next, xthen_ret, xthen_brk, selB_t, selB_f, puts_nil, puts_cons, exL_e, exS_ifK, alloc, storesOk, listAt, tupAt, v1, v2, v3, v4, v5, v6, v7, v8, g1, g2, g3, -exS_if, -Int.natCast_pos, -Int.ofNat_lt, -Int.pred_toNat, -Int.toNat_sub', -Option.some.injEq, -Int.natCast_eq_zero, -Bool.not_not, -Int.zero_add, -Int.add_zero, -Int.zero_sub, -Int.sub_neg, -Int.neg_neg, -Int.sub_zero, -Option.map_bind, -bne_self_eq_false, -List.set_append_right, -List.length_replicate, -List.flatten_replicate_singleton, -Nat.one_mul, -Nat.zero_add, -Option.map_map, -List.getElem?_map, -oX_some, -oW_some, -exL_nil, -decide_eq_true_eq, -Bool.or_eq_true, -Bool.and_eq_true, -bne_iff_ne, -beq_iff_eq, -ne_eq, -List.append_assoc, -ge_iff_le, -Int.ofNat_le, -List.length_append, -List.length_map, -List.map_map, -get_len0, -get_lenS, -ints_map, -strs_map, -strs_snoc] at h0)
              exact type_of% h0
            · exact rfl
            intro zK
            clear zK
            refine kk ?_ ?_
            · kernel_rfl
          | simp only [oW_some, hl2, hs2, ho7, hs3, bi_len_s, bne_self_eq_false, Bool.false_eq_true, if_false, decide_true, assignO_list, lenO_list, lenO_tup, getO_list, getO_tup, List.length_map, Bool.true_or, Bool.or_true, Bool.and_self, Bool.true_and, Bool.and_true, eq_self, if_true]
        by_cases h1 : 0 < fl.length
        · by_cases h2 : fl.length < own.length
          · have hck : checkF (mulS "(" ((fl.length : Nat) - 1 : Int) ++ joinS own ++ mulS ")" ((own.length : Int) - (fl.length : Nat) - 1)) = inS "()" (plainF own) := by
              have hb' := hbad
              unfold badF at hb'
              rw [← hup] at hb'
              simp only [h1, h2, decide_true, Bool.true_and, bne_eq_false_iff_eq] at hb'
              exact hb'
            have hin : (!(Builtin.Str.occurrences (plainF own) (Str.ofString "()") 0 (plainF own).length 1).isEmpty) = inS "()" (plainF own) := rfl
            have m1 : (mulS (Str.ofString "(") ((fl.length : Nat) - 1 : Int)).length = fl.length - 1 := by rw [mulS_len1 (by decide +kernel)]; exact ast_i1 _
            have m2 : (mulS (Str.ofString ")") ((own.length : Int) - (fl.length : Nat) - 1)).length = own.length - fl.length - 1 := by rw [mulS_len1 (by decide +kernel)]; exact ast_i2 _ _
            have j1 : sumLen own ≤ 200 := Nat.le_trans (sumLen_le 20 own fun x hx => hz2 x (hm x hx)) (Nat.mul_le_mul_right 20 hown)
            have a1 : fl.length - 1 ≤ 10 := Nat.le_trans (Nat.sub_le _ _) hfll
            have a2 : own.length - fl.length - 1 ≤ 10 := Nat.le_trans (Nat.sub_le _ _) (Nat.le_trans (Nat.sub_le _ _) hown)
            have o1 : (Str.ofString "(").length = 1 := by decide +kernel
            have o2 : (Str.ofString ")").length = 1 := by decide +kernel
            have sm1 : small ((fl.length : Nat) - 1 : Int) = true := ast_s1 hfll
            have sm2 : small ((own.length : Int) - (fl.length : Nat) - 1) = true := ast_s2 hfll hown
            have z1 : sizeOk (fl.length - 1) = true := size_le (Nat.le_trans a1 (by decide))
            have z2 : sizeOk (sumLen own) = true := size_le (Nat.le_trans j1 (by decide))
            have z3 : sizeOk (fl.length - 1 + sumLen own) = true := size_le (Nat.le_trans (Nat.add_le_add a1 j1) (by decide))
            have z4 : sizeOk (own.length - fl.length - 1) = true := size_le (Nat.le_trans a2 (by decide))
            have z5 : sizeOk (fl.length - 1 + sumLen own + (own.length - fl.length - 1)) = true := size_le (Nat.le_trans (ast_len a1 j1 a2) (by decide))
            have hfin : (mulS (Str.ofString "(") ((fl.length : Nat) - 1 : Int) ++ joinS own ++ mulS (Str.ofString ")") ((own.length : Int) - (fl.length : Nat) - 1)).length ≤ 500 := by
              rw [len_app, len_app, m1, m2, joinS_len]
              exact ast_len a1 j1 a2
            repeat
              first
              | refine kOut ((?_ : KT _ ?_) (kF ?_ ?_))
                rotate_left 2
                · intro h0
                  repeat1' ((try rw [exL_x] at h0); simp [xthen_next, xthen_ret, xthen_brk, selB_t, selB_f, puts_nil, puts_cons, exL_e, exS_ifK, alloc, storesOk, listAt, tupAt, v1, v2, v3, v4, v5, v6, v7, v8, g1, g2, g3, -exS_if, -Int.natCast_pos, -Int.ofNat_lt, -Int.pred_toNat, -Int.toNat_sub', -Option.some.injEq, -Int.natCast_eq_zero, -Bool.not_not, -Int.zero_add, -Int.add_zero, -Int.zero_sub, -Int.sub_neg, -Int.neg_neg, -Int.sub_zero, -Option.map_bind, -bne_self_eq_false, -List.set_append_right, -List.length_replicate, -List.flatten_replicate_singleton, -Nat.one_mul, -Nat.zero_add, -Option.map_map, -List.getElem?_map, -oX_some, -oW_some, -exL_nil, -decide_eq_true_eq, -Bool.or_eq_true, -Bool.and_eq_true, -bne_iff_ne, -beq_iff_eq, -ne_eq, -List.append_assoc, -ge_iff_le, -Int.ofNat_le, -List.length_append, -List.length_map, -List.map_map, -get_len0, -get_lenS, -ints_map, -strs_map, -strs_snoc] at h0)
                  exact type_of% h0
                · exact rfl
                intro zK
                clear zK
                refine kk ?_ ?_
                · kernel_rfl
              | simp only [decide_eq_true (Int.natCast_pos.mpr h1), decide_eq_true (Int.ofNat_lt.mpr h2), hin, ho7, hs3, sm1, sm2, o1, o2, Nat.one_mul, ast_i1, ast_i2, z1, z2, z3, z4, z5, m1, m2, strs_map, Option.map_some, len_app, joinS_len, bi_len_s, bne_self_eq_false, Bool.false_eq_true, if_false, decide_true, assignO_list, lenO_list, lenO_tup, getO_list, getO_tup, List.length_map, Bool.true_or, Bool.or_true, Bool.and_self, Bool.true_and, Bool.and_true, eq_self, if_true]
            with_reducible refine ox_bind2I ?_
            repeat with_reducible refine oW_bindI ?_
            refine oW_mono (check_ok hfin) ?_
            rintro v H' ⟨hp', rfl⟩
            rw [hck]
            cases inS (Str.ofString "()") (plainF own) with
            | true =>
              refine kOut ((?_ : KT _ ?_) (kF ?_ ?_))
              rotate_left 2
              · intro h0
                repeat1' ((try rw [exL_x] at h0); simp [xthen_next, xthen_ret, xthen_brk, selB_t, selB_f, puts_nil, puts_cons, exL_e, exS_ifK, alloc, storesOk, listAt, tupAt, v1, v2, v3, v4, v5, v6, v7, v8, g1, g2, g3, -exS_if, -Int.natCast_pos, -Int.ofNat_lt, -Int.pred_toNat, -Int.toNat_sub', -Option.some.injEq, -Int.natCast_eq_zero, -Bool.not_not, -Int.zero_add, -Int.add_zero, -Int.zero_sub, -Int.sub_neg, -Int.neg_neg, -Int.sub_zero, -Option.map_bind, -bne_self_eq_false, -List.set_append_right, -List.length_replicate, -List.flatten_replicate_singleton, -Nat.one_mul, -Nat.zero_add, -Option.map_map, -List.getElem?_map, -oX_some, -oW_some, -exL_nil, -decide_eq_true_eq, -Bool.or_eq_true, -Bool.and_eq_true, -bne_iff_ne, -beq_iff_eq, -ne_eq, -List.append_assoc, -ge_iff_le, -Int.ofNat_le, -List.length_append, -List.length_map, -List.map_map, -get_len0, -get_lenS, -ints_map, -strs_map, -strs_snoc] at h0)
                exact type_of% h0
              · exact rfl
              intro zK
              clear zK
              refine kk ?_ ?_
              · kernel_rfl
              exact ox_nil (hN _ _ ⟨by kernel_rfl, by kernel_rfl, hpx3.trans hp'⟩)
            | false =>
              refine kOut ((?_ : KT _ ?_) (kF ?_ ?_))
              rotate_left 2
              · intro h0
                repeat1' ((try rw [exL_x] at h0); simp [xthen_next, xthen_ret, xthen_brk, selB_t, selB_f, puts_nil, puts_cons, exL_e, exS_ifK, alloc, storesOk, listAt, tupAt, v1, v2, v3, v4, v5, v6, v7, v8, g1, g2, g3, -exS_if, -Int.natCast_pos, -Int.ofNat_lt, -Int.pred_toNat, -Int.toNat_sub', -Option.some.injEq, -Int.natCast_eq_zero, -Bool.not_not, -Int.zero_add, -Int.add_zero, -Int.zero_sub, -Int.sub_neg, -Int.neg_neg, -Int.sub_zero, -Option.map_bind, -bne_self_eq_false, -List.set_append_right, -List.length_replicate, -List.flatten_replicate_singleton, -Nat.one_mul, -Nat.zero_add, -Option.map_map, -List.getElem?_map, -oX_some, -oW_some, -exL_nil, -decide_eq_true_eq, -Bool.or_eq_true, -Bool.and_eq_true, -bne_iff_ne, -beq_iff_eq, -ne_eq, -List.append_assoc, -ge_iff_le, -Int.ofNat_le, -List.length_append, -List.length_map, -List.map_map, -get_len0, -get_lenS, -ints_map, -strs_map, -strs_snoc] at h0)
                exact type_of% h0
              · exact rfl
              intro zK
              clear zK
              refine kk ?_ ?_
              · kernel_rfl
              exact ox_nil (hN _ _ ⟨by kernel_rfl, by kernel_rfl, hpx3.trans hp'⟩)
          · repeat
              first
              | refine kOut ((?_ : KT _ ?_) (kF ?_ ?_))
                rotate_left 2
                · intro h0
                  repeat1' ((try rw [exL_x] at h0); simp [xthen_next, xthen_ret, xthen_brk, selB_t, selB_f, puts_nil, puts_cons, exL_e, exS_ifK, alloc, storesOk, listAt, tupAt, v1, v2, v3, v4, v5, v6, v7, v8, g1, g2, g3, -exS_if, -Int.natCast_pos, -Int.ofNat_lt, -Int.pred_toNat, -Int.toNat_sub', -Option.some.injEq, -Int.natCast_eq_zero, -Bool.not_not, -Int.zero_add, -Int.add_zero, -Int.zero_sub, -Int.sub_neg, -Int.neg_neg, -Int.sub_zero, -Option.map_bind, -bne_self_eq_false, -List.set_append_right, -List.length_replicate, -List.flatten_replicate_singleton, -Nat.one_mul, -Nat.zero_add, -Option.map_map, -List.getElem?_map, -oX_some, -oW_some, -exL_nil, -decide_eq_true_eq, -Bool.or_eq_true, -Bool.and_eq_true, -bne_iff_ne, -beq_iff_eq, -ne_eq, -List.append_assoc, -ge_iff_le, -Int.ofNat_le, -List.length_append, -List.length_map, -List.map_map, -get_len0, -get_lenS, -ints_map, -strs_map, -strs_snoc] at h0)
                  exact type_of% h0
                · exact rfl
                intro zK
                clear zK
                refine kk ?_ ?_
                · kernel_rfl
              | simp only [decide_eq_true (Int.natCast_pos.mpr h1), decide_eq_false (fun h => h2 (Int.ofNat_lt.mp h)), bi_len_s, bne_self_eq_false, Bool.false_eq_true, if_false, decide_true, assignO_list, lenO_list, lenO_tup, getO_list, getO_tup, List.length_map, Bool.true_or, Bool.or_true, Bool.and_self, Bool.true_and, Bool.and_true, eq_self, if_true]
            exact ox_nil (hN _ _ ⟨by kernel_rfl, by kernel_rfl, hpx3⟩)
        · repeat
            first
            | refine kOut ((?_ : KT _ ?_) (kF ?_ ?_))
              rotate_left 2
              · intro h0
                repeat1' ((try rw [exL_x] at h0); simp [xthen_next, xthen_ret, xthen_brk, selB_t, selB_f, puts_nil, puts_cons, exL_e, exS_ifK, alloc, storesOk, listAt, tupAt, v1, v2, v3, v4, v5, v6, v7, v8, g1, g2, g3, -exS_if, -Int.natCast_pos, -Int.ofNat_lt, -Int.pred_toNat, -Int.toNat_sub', -Option.some.injEq, -Int.natCast_eq_zero, -Bool.not_not, -Int.zero_add, -Int.add_zero, -Int.zero_sub, -Int.sub_neg, -Int.neg_neg, -Int.sub_zero, -Option.map_bind, -bne_self_eq_false, -List.set_append_right, -List.length_replicate, -List.flatten_replicate_singleton, -Nat.one_mul, -Nat.zero_add, -Option.map_map, -List.getElem?_map, -oX_some, -oW_some, -exL_nil, -decide_eq_true_eq, -Bool.or_eq_true, -Bool.and_eq_true, -bne_iff_ne, -beq_iff_eq, -ne_eq, -List.append_assoc, -ge_iff_le, -Int.ofNat_le, -List.length_append, -List.length_map, -List.map_map, -get_len0, -get_lenS, -ints_map, -strs_map, -strs_snoc] at h0)
                exact type_of% h0
              · exact rfl
              intro zK
              clear zK
              refine kk ?_ ?_
              · kernel_rfl
            | simp only [decide_eq_false (fun h => h1 (Int.natCast_pos.mp h)), bi_len_s, bne_self_eq_false, Bool.false_eq_true, if_false, decide_true, assignO_list, lenO_list, lenO_tup, getO_list, getO_tup, List.length_map, Bool.true_or, Bool.or_true, Bool.and_self, Bool.true_and, Bool.and_true, eq_self, if_true]
          exact ox_nil (hN _ _ ⟨by kernel_rfl, by kernel_rfl, hpx3⟩)
  · rintro l X ⟨e1, e2, hp⟩
    refine ⟨rfl, ?_⟩
    dsimp only
    refine kOut ((?_ : KT _ ?_) (kF ?_ ?_))
    rotate_left 2
    · intro h0
      repeat1' ((try rw [exL_x] at h0); simp [xthen_next, xthen_ret, xthen_brk, selB_t, selB_f, puts_nil, puts_cons, exL_e, exS_ifK, alloc, storesOk, listAt, tupAt, v1, v2, v3, v4, v5, v6, v7, v8, g1, g2, g3, -exS_if, -Int.natCast_pos, -Int.ofNat_lt, -Int.pred_toNat, -Int.toNat_sub', -Option.some.injEq, -Int.natCast_eq_zero, -Bool.not_not, -Int.zero_add, -Int.add_zero, -Int.zero_sub, -Int.sub_neg, -Int.neg_neg, -Int.sub_zero, -Option.map_bind, -bne_self_eq_false, -List.set_append_right, -List.length_replicate, -List.flatten_replicate_singleton, -Nat.one_mul, -Nat.zero_add, -Option.map_map, -List.getElem?_map, -oX_some, -oW_some, -exL_nil, -decide_eq_true_eq, -Bool.or_eq_true, -Bool.and_eq_true, -bne_iff_ne, -beq_iff_eq, -ne_eq, -List.append_assoc, -ge_iff_le, -Int.ofNat_le, -List.length_append, -List.length_map, -List.map_map, -get_len0, -get_lenS, -ints_map, -strs_map, -strs_snoc] at h0)
      exact type_of% h0
    · exact rfl
    intro zK
    clear zK
    refine kk ?_ ?_
    · kernel_rfl
    exact ox_ret (hRet _ _ _ ⟨hp, rfl⟩)
end Mine.L
end
section
/-! Contracts: cells. -/
namespace Mine.L
open PySem
set_option maxRecDepth 100000
set_option linter.unusedSimpArgs false

structure HT where
  h : List Int
  t : List (Int × Int)
noncomputable def hookF (rows : List Int) (r c : Nat) : Int := rows.getD r 0 - c + ((rows.drop (r + 1)).filter fun o => decide ((c : Int) < o)).length
noncomputable def cellS (rows : List Int) (r c : Nat) (s : HT) : HT := ⟨s.h ++ [hookF rows r c], putD ((c : Int) - r) ((s.t.lookup ((c : Int) - r)).getD 0 + 1) s.t⟩
noncomputable def cellR (rows : List Int) (r : Nat) (s : HT) : Nat → HT
  | 0 => s
  | m + 1 => cellS rows r m (cellR rows r s m)
noncomputable def cellA (rows : List Int) : Nat → HT
  | 0 => ⟨[], []⟩
  | r + 1 => cellR rows r (cellA rows r) (rows.getD r 0).toNat
noncomputable def cellsF (rows : List Int) : HT := cellA rows rows.length
theorem putD_len (k v : Int) : ∀ t : List (Int × Int), (putD k v t).length ≤ t.length + 1
  | [] => Nat.le_refl _
  | p :: r => by
    have := putD_len k v r
    unfold putD
    split <;> simp <;> omega
noncomputable def HTok (s : HT) (m : Nat) : Prop := s.h.length ≤ m ∧ s.t.length ≤ m
theorem cellS_ok {rows : List Int} {r c : Nat} {s : HT} {m : Nat} (h : HTok s m) : HTok (cellS rows r c s) (m + 1) := by
  obtain ⟨h1, h2⟩ := h
  refine ⟨by simp [cellS]; omega, ?_⟩
  have := putD_len ((c : Int) - r) ((s.t.lookup ((c : Int) - r)).getD 0 + 1) s.t
  simp only [cellS]; omega
theorem cellR_ok {rows : List Int} {r : Nat} {s : HT} {m : Nat} (h : HTok s m) : ∀ c, HTok (cellR rows r s c) (m + c)
  | 0 => h
  | c + 1 => cellS_ok (cellR_ok h c)
theorem cellA_ok {rows : List Int} (hr : ∀ x ∈ rows, x ≤ 20) : ∀ r, HTok (cellA rows r) (r * 20)
  | 0 => ⟨Nat.zero_le _, Nat.zero_le _⟩
  | r + 1 => by
    have h := cellR_ok (rows := rows) (r := r) (cellA_ok hr r) (rows.getD r 0).toNat
    have : rows.getD r 0 ≤ 20 := by
      by_cases hl : r < rows.length
      · have : rows.getD r 0 ∈ rows := by simp [hl]
        exact hr _ this
      · simp [hl]
    exact ⟨by have := h.1; unfold cellA; omega, by have := h.2; unfold cellA; omega⟩
theorem cells_vars : (isVar (fN "_law_cells") "rows" = true ∧ isVar (fN "_law_cells") "hooks" = true ∧ isVar (fN "_law_cells") "tally" = true ∧ isVar (fN "_law_cells") "r" = true ∧ isVar (fN "_law_cells") "c" = true) ∧ isGlob (fN "_law_cells") "len" = true ∧ isGlob (fN "_law_cells") "range" = true := by decide +kernel
structure CellI (H : AH) (k : Nat) (s : HT) (rh rt : Nat) (l : AL) (X : AH) : Prop where
  e1 : l "rows" = some (.ref k)
  e2 : l "hooks" = some (.ref rh)
  e3 : l "tally" = some (.ref rt)
  hp : H <+: X
  hr : H.length ≤ rh
  ht : H.length ≤ rt
  hn : rh ≠ rt
  e5 : X[rh]? = some (.list (s.h.map AV.int))
  e6 : X[rt]? = some (.dict s.t)
noncomputable def CellJ (H : AH) (k : Nat) (s : HT) (l : AL) (X : AH) : Prop := ∃ rh rt, CellI H k s rh rt l X
theorem cellJ_of {H : AH} {k : Nat} {s : HT} {l : AL} {X : AH} (rh rt : Nat) (h : CellI H k s rh rt l X) : CellJ H k s l X := ⟨rh, rt, h⟩
structure CellK (H : AH) (k : Nat) (r : Nat) (s : HT) (l : AL) (X : AH) : Prop where
  a1 : CellJ H k s l X
  a2 : l "r" = some (.int r)
theorem cells_ok {ns : List Int} {n : Nat} {H : AH} {k : Nat} {rows : List Int} (hk : H[k]? = some (.list (rows.map AV.int))) (hz : rows.length ≤ 50) (hz2 : ∀ x ∈ rows, 0 ≤ x ∧ x ≤ 20) :
    oW ((ev true ns (n + 20)).call "_law_cells" [.ref k] H) fun v H' => H <+: H' ∧ ∃ r rh rt, v = .ref r ∧ H'[r]? = some (.tup [.ref rh, .ref rt]) ∧ H'[rh]? = some (.list ((cellsF rows).h.map .int)) ∧ H'[rt]? = some (.dict (cellsF rows).t) := by
  rw [call_ev (by decide +kernel)]
  refine hide fun hG hF => ?_
  obtain ⟨⟨v1, v2, v3, v4, v5⟩, g1, g2⟩ := cells_vars
  refine hF ?_
  clear hF hG
  refine call_K (ps := ["rows"]) (N := fN "_law_cells") rfl rfl (by decide +kernel) fun P hRet => ?_
  have hs : sizeOk rows.length = true := size_le (by omega)
  have hsm : small rows.length = true := small_lit (by omega) (by omega)
  refine kOut ((?_ : KT _ ?_) (kF ?_ ?_))
  rotate_left 2
  · intro h0
    repeat1' ((try rw [exL_x] at h0); simp [xthen_next, xthen_ret, xthen_brk, selB_t, selB_f, puts_nil, puts_cons, exL_e, exS_ifK, storesOk, listAt, tupAt, v1, v2, v3, v4, v5, g1, g2, -exS_if, -Int.natCast_pos, -Int.ofNat_lt, -Int.pred_toNat, -Int.toNat_sub', -Option.some.injEq, -Int.natCast_eq_zero, -Bool.not_not, -Int.zero_add, -Int.add_zero, -Int.zero_sub, -Int.sub_neg, -Int.neg_neg, -Int.sub_zero, -Option.map_bind, -bne_self_eq_false, -List.set_append_right, -List.length_replicate, -List.flatten_replicate_singleton, -Nat.one_mul, -Nat.zero_add, -Option.map_map, -List.getElem?_map, -oX_some, -oW_some, -exL_nil, -decide_eq_true_eq, -Bool.or_eq_true, -Bool.and_eq_true, -bne_iff_ne, -beq_iff_eq, -ne_eq, -List.append_assoc, -ge_iff_le, -Int.ofNat_le, -List.length_append, -List.length_map, -List.map_map, -get_len0, -get_lenS, -ints_map, -strs_map, -strs_snoc] at h0)
    exact type_of% h0
  · exact rfl
  intro zK
  clear zK
  refine kk ?_ ?_
  · kernel_rfl
  rw [exL_cons, exS_for]
  refine it_range1 (by rw [g2]; rfl) rfl ?_
  simp [v1, g1, get_app hk, hs, hsm]
  refine for_rangeK (n := rows.length) (fun r l X => CellJ H k (cellA rows r) l X) ?_ ?_ _ _ (cellJ_of H.length (H.length + 1) ⟨by simp, by simp, by simp, pre_app List.prefix_rfl, Nat.le_refl _, Nat.le_add_right _ _, by omega, by simp [cellA], by simp [cellA]⟩) (by simp)
  · rintro r l X hj ⟨rh, rt, e1, e2, e3, hp, hr, ht, hn, e5, e6⟩
    refine ⟨rfl, _, bindT_name v4, fun P' hN hR => ?_⟩
    clear hR
    rw [Int.zero_add]
    have hsr : small (r : Int) = true := small_lit (by omega) (by omega)
    have hok := cellA_ok (fun x hx => (hz2 x hx).2) r
    have hac : cellA rows (r + 1) = cellR rows r (cellA rows r) (rows.getD r 0).toNat := rfl
    replace hN : ∀ l' X', CellJ H k (cellR rows r (cellA rows r) (rows.getD r 0).toNat) l' X' → P' .next l' X' := hN
    clear hac
    generalize cellA rows r = s0 at e5 e6 hok hN
    have q1 : (rows.map AV.int)[r]? = some (.int (rows.getD r 0)) := by simp [hj]
    have hv : 0 ≤ rows.getD r 0 ∧ rows.getD r 0 ≤ 20 := hz2 _ (by simp [hj])
    have hhk : ∀ c, hookF rows r c = rows.getD r 0 - c + ((rows.drop (r + 1)).filter fun o => decide ((c : Int) < o)).length := fun c => rfl
    generalize rows.getD r 0 = w at q1 hv hhk hN
    have hsw : small w = true := small_lit (by omega) (by omega)
    rw [exL_cons, exS_for]
    refine it_range1 (by rw [g2]; rfl) rfl ?_
    simp [v1, v4, hsr, e1, pre_at hp hk, q1, hsw]
    refine for_rangeK (n := w.toNat) (fun c l X => CellK H k r (cellR rows r s0 c) l X) ?_ ?_ _ _ ⟨cellJ_of rh rt ⟨by simp [e1], by simp [e2], by simp [e3], hp, hr, ht, hn, e5, e6⟩, by simp⟩ (by simp)
    · rintro c l X hc ⟨⟨rh, rt, e1, e2, e3, hp, hr, ht, hn, e5, e6⟩, e7⟩
      refine ⟨rfl, _, bindT_name v5, fun P'' hN2 hR2 => ?_⟩
      clear hR2 hN
      rw [Int.zero_add]
      have hok2 := cellR_ok (rows := rows) (r := r) hok c
      have hstep : cellR rows r s0 (c + 1) = cellS rows r c (cellR rows r s0 c) := rfl
      replace hN2 : ∀ l' X', CellK H k r (cellS rows r c (cellR rows r s0 c)) l' X' → P'' .next l' X' := hN2
      clear hstep
      generalize cellR rows r s0 c = s at e5 e6 hok2 hN2
      rw [puts_eq (l := l) [("rows", _), ("hooks", _), ("tally", _), ("r", _)] ⟨e1, e2, e3, e7, trivial⟩]
      have hd := pickL_drop (rows.map AV.int) (r + 1)
      rw [← List.map_drop] at hd
      have hcl : (rows.drop (r + 1)).length ≤ 50 := by simp; omega
      have hhc := hhk c
      generalize rows.drop (r + 1) = up at hd hcl hhc
      have hsw1 : sizeOk rows.length = true := size_le (by omega)
      repeat
        first
        | refine kOut ((?_ : KT _ ?_) (kF ?_ ?_))
          rotate_left 2
          · intro h0
            repeat1' ((try rw [exL_x] at h0); simp [xthen_next, xthen_ret, xthen_brk, selB_t, selB_f, puts_nil, puts_cons, exL_e, exS_ifK, storesOk, listAt, tupAt, v1, v2, v3, v4, v5, g1, g2, -exS_if, -Int.natCast_pos, -Int.ofNat_lt, -Int.pred_toNat, -Int.toNat_sub', -Option.some.injEq, -Int.natCast_eq_zero, -Bool.not_not, -Int.zero_add, -Int.add_zero, -Int.zero_sub, -Int.sub_neg, -Int.neg_neg, -Int.sub_zero, -Option.map_bind, -bne_self_eq_false, -List.set_append_right, -List.length_replicate, -List.flatten_replicate_singleton, -Nat.one_mul, -Nat.zero_add, -Option.map_map, -List.getElem?_map, -oX_some, -oW_some, -exL_nil, -decide_eq_true_eq, -Bool.or_eq_true, -Bool.and_eq_true, -bne_iff_ne, -beq_iff_eq, -ne_eq, -List.append_assoc, -ge_iff_le, -Int.ofNat_le, -List.length_append, -List.length_map, -List.map_map, -get_len0, -get_lenS, -ints_map, -strs_map, -strs_snoc] at h0)
            exact type_of% h0
          · exact rfl
          intro zK
          clear zK
          refine kk ?_ ?_
          · kernel_rfl
        | simp only [pre_at hp hk, hsr, q1, bi_len_s, bne_self_eq_false, Bool.false_eq_true, if_false, decide_true, assignO_list, lenO_list, lenO_tup, getO_list, getO_tup, List.length_map, Bool.true_or, Bool.or_true, Bool.and_self, Bool.true_and, Bool.and_true, eq_self, if_true]
      try with_reducible refine ox_bindI ?_
      repeat with_reducible refine oW_bindI ?_
      rw [e_comp]
      refine ev_comp (by decide +kernel) (it_list rfl rfl (k := X.length) (H' := X ++ [.list (up.map AV.int)]) (x := up.map AV.int) ?_ (by simp) ?_)
      · simp [puts_cons, puts_nil, v1, v4, listAt, pre_at hp hk, hs, alloc]
        exact hd
      · rw [List.map_map]
        have hpx := pre_app (L := [AO.list (up.map AV.int)]) hp
        have e5' := get_app (G := [AO.list (up.map AV.int)]) e5
        have e6' := get_app (G := [AO.list (up.map AV.int)]) e6
        have hl := get_len0 (X := X) (L := [AO.list (up.map AV.int)])
        generalize X.length = r1 at hl
        generalize X ++ [AO.list (up.map AV.int)] = X1 at hpx e5' e6' hl
        simp only [List.getElem?_cons_zero] at hl
        refine ⟨_, comp_pure (H₀ := X1) _ (fun lc => lc "c" = some (.int c)) (fun x => decide ((c : Int) < x)) (fun x => .int x) (fun Z => by simp [get_app hl]) _ [] _ ?_ (by simp; omega) ?_, ?_⟩
        · simp [compLocals, List.lookup_cons]
        · intro x hx lc hlc
          simp [isVar, compNames, List.lookup_cons, hlc]
        · rw [List.nil_append]
          have hfl : (up.filter fun x => decide ((c : Int) < x)).length ≤ 50 := by
            have := List.length_filter_le (fun x => decide ((c : Int) < x)) up
            omega
          generalize (up.filter fun x => decide ((c : Int) < x)) = fl at hfl hhc
          have hpx2 := pre_app (L := [AO.list (fl.map fun x => AV.int x)]) hpx
          have e52 := get_app (G := [AO.list (fl.map fun x => AV.int x)]) e5'
          have e62 := get_app (G := [AO.list (fl.map fun x => AV.int x)]) e6'
          have hl2 := get_len0 (X := X1) (L := [AO.list (fl.map fun x => AV.int x)])
          generalize X1.length = r2 at hl2
          generalize X1 ++ [AO.list (fl.map fun x => AV.int x)] = X2 at hpx2 e52 e62 hl2
          simp only [List.getElem?_cons_zero] at hl2
          have hs2 : sizeOk fl.length = true := size_le (by omega)
          have hs3 : sizeOk (s.h.length + 1) = true := size_le (by have := hok2.1; omega)
          have hs4 : sizeOk (s.t.length + 1) = true := size_le (by have := hok2.2; omega)
          repeat
            first
            | refine kOut ((?_ : KT _ ?_) (kF ?_ ?_))
              rotate_left 2
              · intro h0
                repeat1' ((try rw [exL_x] at h0); simp [xthen_next, xthen_ret, xthen_brk, selB_t, selB_f, puts_nil, puts_cons, exL_e, exS_ifK, storesOk, listAt, tupAt, v1, v2, v3, v4, v5, g1, g2, -exS_if, -Int.natCast_pos, -Int.ofNat_lt, -Int.pred_toNat, -Int.toNat_sub', -Option.some.injEq, -Int.natCast_eq_zero, -Bool.not_not, -Int.zero_add, -Int.add_zero, -Int.zero_sub, -Int.sub_neg, -Int.neg_neg, -Int.sub_zero, -Option.map_bind, -bne_self_eq_false, -List.set_append_right, -List.length_replicate, -List.flatten_replicate_singleton, -Nat.one_mul, -Nat.zero_add, -Option.map_map, -List.getElem?_map, -oX_some, -oW_some, -exL_nil, -decide_eq_true_eq, -Bool.or_eq_true, -Bool.and_eq_true, -bne_iff_ne, -beq_iff_eq, -ne_eq, -List.append_assoc, -ge_iff_le, -Int.ofNat_le, -List.length_append, -List.length_map, -List.map_map, -get_len0, -get_lenS, -ints_map, -strs_map, -strs_snoc] at h0)
                exact type_of% h0
              · exact rfl
              intro zK
              clear zK
              refine kk ?_ ?_
              · kernel_rfl
            | simp only [oW_some, hl2, hs2, hs3, e5, e52, bi_len_s, bne_self_eq_false, Bool.false_eq_true, if_false, decide_true, assignO_list, lenO_list, lenO_tup, getO_list, getO_tup, List.length_map, Bool.true_or, Bool.or_true, Bool.and_self, Bool.true_and, Bool.and_true, eq_self, if_true]
          have e53 : (X2.set rh (AO.list (s.h.map AV.int ++ [AV.int (w - (c : Int) + (fl.length : Int))])))[rh]? = some (.list ((s.h ++ [hookF rows r c]).map AV.int)) := by rw [set_get e52, hhc]; simp
          have e63 : (X2.set rh (AO.list (s.h.map AV.int ++ [AV.int (w - (c : Int) + (fl.length : Int))])))[rt]? = some (.dict s.t) := by rw [List.getElem?_set_ne hn]; exact e62
          have hpx3 := pre_set (o := AO.list (s.h.map AV.int ++ [AV.int (w - (c : Int) + (fl.length : Int))])) hpx2 hr
          generalize X2.set rh (AO.list (s.h.map AV.int ++ [AV.int (w - (c : Int) + (fl.length : Int))])) = X3 at e53 e63 hpx3
          repeat
            first
            | refine kOut ((?_ : KT _ ?_) (kF ?_ ?_))
              rotate_left 2
              · intro h0
                repeat1' ((try rw [exL_x] at h0); simp [xthen_next, xthen_ret, xthen_brk, selB_t, selB_f, puts_nil, puts_cons, exL_e, exS_ifK, storesOk, listAt, tupAt, v1, v2, v3, v4, v5, g1, g2, -exS_if, -Int.natCast_pos, -Int.ofNat_lt, -Int.pred_toNat, -Int.toNat_sub', -Option.some.injEq, -Int.natCast_eq_zero, -Bool.not_not, -Int.zero_add, -Int.add_zero, -Int.zero_sub, -Int.sub_neg, -Int.neg_neg, -Int.sub_zero, -Option.map_bind, -bne_self_eq_false, -List.set_append_right, -List.length_replicate, -List.flatten_replicate_singleton, -Nat.one_mul, -Nat.zero_add, -Option.map_map, -List.getElem?_map, -oX_some, -oW_some, -exL_nil, -decide_eq_true_eq, -Bool.or_eq_true, -Bool.and_eq_true, -bne_iff_ne, -beq_iff_eq, -ne_eq, -List.append_assoc, -ge_iff_le, -Int.ofNat_le, -List.length_append, -List.length_map, -List.map_map, -get_len0, -get_lenS, -ints_map, -strs_map, -strs_snoc] at h0)
                exact type_of% h0
              · exact rfl
              intro zK
              clear zK
              refine kk ?_ ?_
              · kernel_rfl
            | simp only [e63, hs4, bi_len_s, bne_self_eq_false, Bool.false_eq_true, if_false, decide_true, assignO_list, lenO_list, lenO_tup, getO_list, getO_tup, List.length_map, Bool.true_or, Bool.or_true, Bool.and_self, Bool.true_and, Bool.and_true, eq_self, if_true]
          exact ox_nil (hN2 _ _ ⟨cellJ_of rh rt ⟨by kernel_rfl, by kernel_rfl, by kernel_rfl, pre_set hpx3 ht, hr, ht, hn, by rw [List.getElem?_set_ne (Ne.symm hn), e53]; rfl, by rw [set_get e63]; rfl⟩, by kernel_rfl⟩)
    · rintro l X ⟨⟨rh, rt, e1, e2, e3, hp, hr, ht, hn, e5, e6⟩, e7⟩
      exact ⟨rfl, hN _ _ (cellJ_of rh rt ⟨e1, e2, e3, hp, hr, ht, hn, e5, e6⟩)⟩
  · rintro l X ⟨rh, rt, e1, e2, e3, hp, hr, ht, hn, e5, e6⟩
    refine ⟨rfl, ?_⟩
    dsimp only
    rw [puts_eq (l := l) [("hooks", _), ("tally", _)] ⟨e2, e3, trivial⟩]
    refine kOut ((?_ : KT _ ?_) (kF ?_ ?_))
    rotate_left 2
    · intro h0
      repeat1' ((try rw [exL_x] at h0); simp [xthen_next, xthen_ret, xthen_brk, selB_t, selB_f, puts_nil, puts_cons, exL_e, exS_ifK, storesOk, listAt, tupAt, v1, v2, v3, v4, v5, g1, g2, -exS_if, -Int.natCast_pos, -Int.ofNat_lt, -Int.pred_toNat, -Int.toNat_sub', -Option.some.injEq, -Int.natCast_eq_zero, -Bool.not_not, -Int.zero_add, -Int.add_zero, -Int.zero_sub, -Int.sub_neg, -Int.neg_neg, -Int.sub_zero, -Option.map_bind, -bne_self_eq_false, -List.set_append_right, -List.length_replicate, -List.flatten_replicate_singleton, -Nat.one_mul, -Nat.zero_add, -Option.map_map, -List.getElem?_map, -oX_some, -oW_some, -exL_nil, -decide_eq_true_eq, -Bool.or_eq_true, -Bool.and_eq_true, -bne_iff_ne, -beq_iff_eq, -ne_eq, -List.append_assoc, -ge_iff_le, -Int.ofNat_le, -List.length_append, -List.length_map, -List.map_map, -get_len0, -get_lenS, -ints_map, -strs_map, -strs_snoc] at h0)
      exact type_of% h0
    · exact rfl
    intro zK
    clear zK
    refine kk ?_ ?_
    · kernel_rfl
    exact ox_ret (hRet _ _ _ ⟨pre_app hp, _, rh, rt, rfl, get_len0, get_app e5, get_app e6⟩)
end Mine.L
end
section
/-! Contracts: paint, due. -/
namespace Mine.L
open PySem
set_option maxRecDepth 100000
set_option linter.unusedSimpArgs false

noncomputable def dueS (size steps quarters place d : Int) : Int :=
  d * 100 + ((64 - size.fmod 2 * 32) * (4 * size - quarters * maxI 0 (minI size (minI ((6 * steps - place).fmod (6 * size)) ((place - 6 * steps).fmod (6 * size)) - size))) * 2 + 4 * size).fdiv (8 * size)
noncomputable def dueG (size steps quarters : Int) : List Int → Int → Int
  | [], d => d
  | p :: r, d => dueG size steps quarters r (dueS size steps quarters p d)
noncomputable def dueF (steps size quarters : Int) : Int := dueG size steps quarters [0, 2 * size, 4 * size] 0
theorem due_vars : (isVar (fN "_law_due") "steps" = true ∧ isVar (fN "_law_due") "size" = true ∧ isVar (fN "_law_due") "quarters" = true ∧ isVar (fN "_law_due") "due" = true ∧ isVar (fN "_law_due") "place" = true ∧ isVar (fN "_law_due") "gap" = true ∧ isVar (fN "_law_due") "lit" = true) ∧ isGlob (fN "_law_due") "min" = true ∧ isGlob (fN "_law_due") "max" = true := by decide +kernel
structure DueI (H : AH) (steps size quarters : Int) (k : Nat) (ps : List Int) (d : Int) (l : AL) (X : AH) : Prop where
  e1 : l "steps" = some (.int steps)
  e2 : l "size" = some (.int size)
  e3 : l "quarters" = some (.int quarters)
  e4 : l "due" = some (.int d)
  hp : H <+: X
  e5 : dueG size steps quarters ps d = dueF steps size quarters
  e6 : X[k]? = some (.list ([0, 2 * size, 4 * size].map AV.int))
noncomputable def DueJ (H : AH) (steps size quarters : Int) (k : Nat) (vs : List (List AV)) (l : AL) (X : AH) : Prop := ∃ (ps : List Int) (d : Int), vs = ps.map (fun p => [AV.int p]) ∧ DueI H steps size quarters k ps d l X
theorem due_ok {b : Bool} {ns : List Int} {n : Nat} {H : AH} {steps size quarters : Int} (h1 : 0 < size) (h2 : size ≤ 100) (h3 : 0 ≤ quarters) (h4 : quarters ≤ 100) :
    oW ((ev b ns (n + 20)).call "_law_due" [.int steps, .int size, .int quarters] H) fun v H' => H <+: H' ∧ v = .int (dueF steps size quarters) := by
  rw [call_ev (by decide +kernel)]
  refine hide fun zzG zzF => ?_
  obtain ⟨⟨v1, v2, v3, v4, v5, v6, v7⟩, g1, g2⟩ := due_vars
  refine zzF ?_
  clear zzF zzG
  refine call_K (ps := ["steps", "size", "quarters"]) (N := fN "_law_due") rfl rfl (by decide +kernel) fun P hP => ?_
  have s2 : small 2 = true := small_lit (by decide) (by decide)
  have s4 : small 4 = true := small_lit (by decide) (by decide)
  have s6 : small 6 = true := small_lit (by decide) (by decide)
  have s8 : small 8 = true := small_lit (by decide) (by decide)
  have s32 : small 32 = true := small_lit (by decide) (by decide)
  have s100 : small 100 = true := small_lit (by decide) (by decide)
  have sq : small quarters = true := small_lit (by omega) (by omega)
  have sf : small (64 - size.fmod 2 * 32) = true := by
    have a := Int.fmod_nonneg_of_pos size (show (0 : Int) < 2 by decide)
    have b := Int.fmod_lt_of_pos size (show (0 : Int) < 2 by decide)
    exact small_lit (by omega) (by omega)
  have se : small (8 * size) = true := small_lit (by omega) (by omega)
  have n6 : ((6 * size : Int) != 0) = true := bne_iff_ne.mpr (by omega)
  have n8 : ((8 * size : Int) != 0) = true := bne_iff_ne.mpr (by omega)
  refine kOut ((?_ : KT _ ?_) (kF ?_ ?_))
  rotate_left 2
  · intro h0
    repeat1' ((try rw [exL_x] at h0); simp [xthen_next, xthen_ret, xthen_brk, selB_t, selB_f, puts_nil, puts_cons, exL_e, exS_ifK, storesOk, v1, v2, v3, v4, v5, v6, v7, g1, g2, -exS_if, -Int.natCast_pos, -Int.ofNat_lt, -Int.pred_toNat, -Int.toNat_sub', -Option.some.injEq, -Int.natCast_eq_zero, -Bool.not_not, -Int.zero_add, -Int.add_zero, -Int.zero_sub, -Int.sub_neg, -Int.neg_neg, -Int.sub_zero, -Option.map_bind, -bne_self_eq_false, -List.set_append_right, -List.length_replicate, -List.flatten_replicate_singleton, -Nat.one_mul, -Nat.zero_add, -Option.map_map, -List.getElem?_map, -oX_some, -oW_some, -exL_nil, -decide_eq_true_eq, -Bool.or_eq_true, -Bool.and_eq_true, -bne_iff_ne, -beq_iff_eq, -ne_eq, -List.append_assoc, -ge_iff_le, -Int.ofNat_le, -List.length_append, -List.length_map, -List.map_map, -get_len0, -get_lenS, -ints_map, -strs_map, -strs_snoc] at h0)
    exact type_of% h0
  · exact rfl
  intro zK
  clear zK
  refine kk ?_ ?_
  · kernel_rfl
  rw [exL_cons, exS_for]
  refine it_list rfl rfl (k := H.length) (H' := H ++ [.list ([0, 2 * size, 4 * size].map AV.int)]) (x := [0, 2 * size, 4 * size].map AV.int) ?_ get_len0 ?_
  · simp [v2, s2, s4]
  · rw [List.map_map]
    refine for_K (DueJ H steps size quarters H.length) ?_ ?_ _ _ _ ⟨_, 0, rfl, by kernel_rfl, by kernel_rfl, by kernel_rfl, by kernel_rfl, pre_app List.prefix_rfl, rfl, get_len0⟩
    · rintro v vs l X ⟨ps, d, hv, e1, e2, e3, e4, hp, e5, e6⟩
      refine ⟨decide_eq_true e6, ?_⟩
      cases ps with
      | nil => cases hv
      | cons p ps =>
        cases hv
        refine ⟨_, bindT_name v5, fun P' hN _ _ => ?_⟩
        rw [puts_eq (l := l) [("steps", _), ("size", _), ("quarters", _), ("due", _)] ⟨e1, e2, e3, e4, trivial⟩]
        repeat
          first
          | refine kOut ((?_ : KT _ ?_) (kF ?_ ?_))
            rotate_left 2
            · intro h0
              repeat1' ((try rw [exL_x] at h0); simp [xthen_next, xthen_ret, xthen_brk, selB_t, selB_f, puts_nil, puts_cons, exL_e, exS_ifK, storesOk, v1, v2, v3, v4, v5, v6, v7, g1, g2, -exS_if, -Int.natCast_pos, -Int.ofNat_lt, -Int.pred_toNat, -Int.toNat_sub', -Option.some.injEq, -Int.natCast_eq_zero, -Bool.not_not, -Int.zero_add, -Int.add_zero, -Int.zero_sub, -Int.sub_neg, -Int.neg_neg, -Int.sub_zero, -Option.map_bind, -bne_self_eq_false, -List.set_append_right, -List.length_replicate, -List.flatten_replicate_singleton, -Nat.one_mul, -Nat.zero_add, -Option.map_map, -List.getElem?_map, -oX_some, -oW_some, -exL_nil, -decide_eq_true_eq, -Bool.or_eq_true, -Bool.and_eq_true, -bne_iff_ne, -beq_iff_eq, -ne_eq, -List.append_assoc, -ge_iff_le, -Int.ofNat_le, -List.length_append, -List.length_map, -List.map_map, -get_len0, -get_lenS, -ints_map, -strs_map, -strs_snoc] at h0)
              exact type_of% h0
            · exact rfl
            intro zK
            clear zK
            refine kk ?_ ?_
            · kernel_rfl
          | simp only [s2, s4, s6, s8, s32, s100, sq, sf, se, n6, n8, bi_len_s, bne_self_eq_false, Bool.false_eq_true, if_false, decide_true, assignO_list, lenO_list, lenO_tup, getO_list, getO_tup, List.length_map, Bool.true_or, Bool.or_true, Bool.and_self, Bool.true_and, Bool.and_true, eq_self, if_true]
        exact ox_nil (hN _ _ ⟨ps, dueS size steps quarters p d, rfl, by kernel_rfl, by kernel_rfl, by kernel_rfl, by kernel_rfl, hp, e5, e6⟩)
    · rintro l X ⟨ps, d, hv, e1, e2, e3, e4, hp, e5, e6⟩
      refine ⟨decide_eq_true e6, ?_⟩
      cases ps with
      | cons _ _ => cases hv
      | nil =>
        rw [puts_eq (l := l) [("due", _)] ⟨e4, trivial⟩]
        refine kOut ((?_ : KT _ ?_) (kF ?_ ?_))
        rotate_left 2
        · intro h0
          repeat1' ((try rw [exL_x] at h0); simp [xthen_next, xthen_ret, xthen_brk, selB_t, selB_f, puts_nil, puts_cons, exL_e, exS_ifK, storesOk, v1, v2, v3, v4, v5, v6, v7, g1, g2, -exS_if, -Int.natCast_pos, -Int.ofNat_lt, -Int.pred_toNat, -Int.toNat_sub', -Option.some.injEq, -Int.natCast_eq_zero, -Bool.not_not, -Int.zero_add, -Int.add_zero, -Int.zero_sub, -Int.sub_neg, -Int.neg_neg, -Int.sub_zero, -Option.map_bind, -bne_self_eq_false, -List.set_append_right, -List.length_replicate, -List.flatten_replicate_singleton, -Nat.one_mul, -Nat.zero_add, -Option.map_map, -List.getElem?_map, -oX_some, -oW_some, -exL_nil, -decide_eq_true_eq, -Bool.or_eq_true, -Bool.and_eq_true, -bne_iff_ne, -beq_iff_eq, -ne_eq, -List.append_assoc, -ge_iff_le, -Int.ofNat_le, -List.length_append, -List.length_map, -List.map_map, -get_len0, -get_lenS, -ints_map, -strs_map, -strs_snoc] at h0)
          exact type_of% h0
        · exact rfl
        intro zK
        clear zK
        refine kk ?_ ?_
        · kernel_rfl
        exact ox_ret (hP _ _ _ ⟨hp, by rw [← e5]; rfl⟩)
theorem hsv_vars : (isVar (fN "hsv_to_rgb") "h" = true ∧ isVar (fN "hsv_to_rgb") "s" = true ∧ isVar (fN "hsv_to_rgb") "v" = true ∧ isVar (fN "hsv_to_rgb") "i" = true ∧ isVar (fN "hsv_to_rgb") "f" = true ∧ isVar (fN "hsv_to_rgb") "p" = true ∧ isVar (fN "hsv_to_rgb") "q" = true ∧ isVar (fN "hsv_to_rgb") "t" = true) ∧ isGlob (fN "hsv_to_rgb") "int" = true := by decide +kernel
noncomputable def c6 : UInt64 := 4618441417868443648
noncomputable def c1 : UInt64 := 4607182418800017408
noncomputable def hsvF (h s v : UInt64) : Option (UInt64 × UInt64 × UInt64) :=
  if Float64.cmp s 0 = some Ordering.eq then some (v, v, v) else
  match Float64.decode (Float64.mul h c6) with
  | .fin sg m e =>
    let i := Float64.truncOf sg m e
    if Float64.isInf (Float64.ofInt i) = true then none else
    let f := Float64.sub (Float64.mul h c6) (Float64.ofInt i)
    let p := Float64.mul v (Float64.sub c1 s)
    let q := Float64.mul v (Float64.sub c1 (Float64.mul s f))
    let t := Float64.mul v (Float64.sub c1 (Float64.mul s (Float64.sub c1 f)))
    let j := i.fmod 6
    if j = 0 then some (v, t, p) else if j = 1 then some (q, v, p) else if j = 2 then some (p, v, t) else if j = 3 then some (p, q, v) else if j = 4 then some (t, p, v) else if j = 5 then some (v, p, q) else none
  | _ => none
theorem hsv_ok {b : Bool} {ns : List Int} {n : Nat} {H : AH} {h s v r g u : UInt64} (hF : hsvF h s v = some (r, g, u)) :
    oW ((ev b ns (n + 20)).call "hsv_to_rgb" [.flt h, .flt s, .flt v] H) fun w H' => H <+: H' ∧ ∃ k, w = .ref k ∧ H'[k]? = some (.tup [.flt r, .flt g, .flt u]) := by
  rw [call_ev (by decide +kernel)]
  refine hide fun zzG zzF => ?_
  obtain ⟨⟨v1, v2, v3, v4, v5, v6, v7, v8⟩, g1⟩ := hsv_vars
  refine zzF ?_
  clear zzF zzG
  refine call_K (ps := ["h", "s", "v"]) (N := fN "hsv_to_rgb") rfl rfl (by decide +kernel) fun P hP => ?_
  have h6 : c6 = 4618441417868443648 := rfl
  have h1 : c1 = 4607182418800017408 := rfl
  unfold hsvF at hF
  rw [h6, h1] at hF
  refine kOut ((?_ : KT _ ?_) (kF ?_ ?_))
  rotate_left 2
  · intro h0
    repeat1' ((try rw [exL_x] at h0); simp [xthen_next, xthen_ret, xthen_brk, selB_t, selB_f, puts_nil, puts_cons, exL_e, exS_ifK, storesOk, v1, v2, v3, v4, v5, v6, v7, v8, g1, sub_fi, -exS_if, -Int.natCast_pos, -Int.ofNat_lt, -Int.pred_toNat, -Int.toNat_sub', -Option.some.injEq, -Int.natCast_eq_zero, -Bool.not_not, -Int.zero_add, -Int.add_zero, -Int.zero_sub, -Int.sub_neg, -Int.neg_neg, -Int.sub_zero, -Option.map_bind, -bne_self_eq_false, -List.set_append_right, -List.length_replicate, -List.flatten_replicate_singleton, -Nat.one_mul, -Nat.zero_add, -Option.map_map, -List.getElem?_map, -oX_some, -oW_some, -exL_nil, -decide_eq_true_eq, -Bool.or_eq_true, -Bool.and_eq_true, -bne_iff_ne, -beq_iff_eq, -ne_eq, -List.append_assoc, -ge_iff_le, -Int.ofNat_le, -List.length_append, -List.length_map, -List.map_map, -get_len0, -get_lenS, -ints_map, -strs_map, -strs_snoc] at h0)
    exact type_of% h0
  · exact rfl
  intro zK
  clear zK
  refine kk ?_ ?_
  · kernel_rfl
  by_cases hs : Float64.cmp s 0 = some Ordering.eq
  · rw [if_pos hs] at hF
    cases hF
    rw [hs]
    refine kOut ((?_ : KT _ ?_) (kF ?_ ?_))
    rotate_left 2
    · intro h0
      repeat1' ((try rw [exL_x] at h0); simp [xthen_next, xthen_ret, xthen_brk, selB_t, selB_f, puts_nil, puts_cons, exL_e, exS_ifK, storesOk, v1, v2, v3, v4, v5, v6, v7, v8, g1, sub_fi, -exS_if, -Int.natCast_pos, -Int.ofNat_lt, -Int.pred_toNat, -Int.toNat_sub', -Option.some.injEq, -Int.natCast_eq_zero, -Bool.not_not, -Int.zero_add, -Int.add_zero, -Int.zero_sub, -Int.sub_neg, -Int.neg_neg, -Int.sub_zero, -Option.map_bind, -bne_self_eq_false, -List.set_append_right, -List.length_replicate, -List.flatten_replicate_singleton, -Nat.one_mul, -Nat.zero_add, -Option.map_map, -List.getElem?_map, -oX_some, -oW_some, -exL_nil, -decide_eq_true_eq, -Bool.or_eq_true, -Bool.and_eq_true, -bne_iff_ne, -beq_iff_eq, -ne_eq, -List.append_assoc, -ge_iff_le, -Int.ofNat_le, -List.length_append, -List.length_map, -List.map_map, -get_len0, -get_lenS, -ints_map, -strs_map, -strs_snoc] at h0)
      exact type_of% h0
    · exact rfl
    intro zK
    clear zK
    refine kk ?_ ?_
    · kernel_rfl
    exact ox_ret (hP _ _ _ ⟨pre_app List.prefix_rfl, _, rfl, get_len0⟩)
  · rw [if_neg hs] at hF
    rw [show (Float64.cmp s 0 == some Ordering.eq) = false from beq_eq_false_iff_ne.mpr hs]
    refine kOut ((?_ : KT _ ?_) (kF ?_ ?_))
    rotate_left 2
    · intro h0
      repeat1' ((try rw [exL_x] at h0); simp [xthen_next, xthen_ret, xthen_brk, selB_t, selB_f, puts_nil, puts_cons, exL_e, exS_ifK, storesOk, v1, v2, v3, v4, v5, v6, v7, v8, g1, sub_fi, -exS_if, -Int.natCast_pos, -Int.ofNat_lt, -Int.pred_toNat, -Int.toNat_sub', -Option.some.injEq, -Int.natCast_eq_zero, -Bool.not_not, -Int.zero_add, -Int.add_zero, -Int.zero_sub, -Int.sub_neg, -Int.neg_neg, -Int.sub_zero, -Option.map_bind, -bne_self_eq_false, -List.set_append_right, -List.length_replicate, -List.flatten_replicate_singleton, -Nat.one_mul, -Nat.zero_add, -Option.map_map, -List.getElem?_map, -oX_some, -oW_some, -exL_nil, -decide_eq_true_eq, -Bool.or_eq_true, -Bool.and_eq_true, -bne_iff_ne, -beq_iff_eq, -ne_eq, -List.append_assoc, -ge_iff_le, -Int.ofNat_le, -List.length_append, -List.length_map, -List.map_map, -get_len0, -get_lenS, -ints_map, -strs_map, -strs_snoc] at h0)
      exact type_of% h0
    · exact rfl
    intro zK
    clear zK
    refine kk ?_ ?_
    · kernel_rfl
    unfold truncV
    cases hd : Float64.decode (Float64.mul h 4618441417868443648) with
    | fin sg m e =>
      rw [hd] at hF
      dsimp only at hF ⊢
      generalize Float64.truncOf sg m e = i at hF ⊢
      by_cases hi : Float64.isInf (Float64.ofInt i) = true
      · rw [if_pos hi] at hF; cases hF
      · rw [if_neg hi] at hF
        refine kOut ((?_ : KT _ ?_) (kF ?_ ?_))
        rotate_left 2
        · intro h0
          repeat1' ((try rw [exL_x] at h0); simp [xthen_next, xthen_ret, xthen_brk, selB_t, selB_f, puts_nil, puts_cons, exL_e, exS_ifK, storesOk, v1, v2, v3, v4, v5, v6, v7, v8, g1, sub_fi, -exS_if, -Int.natCast_pos, -Int.ofNat_lt, -Int.pred_toNat, -Int.toNat_sub', -Option.some.injEq, -Int.natCast_eq_zero, -Bool.not_not, -Int.zero_add, -Int.add_zero, -Int.zero_sub, -Int.sub_neg, -Int.neg_neg, -Int.sub_zero, -Option.map_bind, -bne_self_eq_false, -List.set_append_right, -List.length_replicate, -List.flatten_replicate_singleton, -Nat.one_mul, -Nat.zero_add, -Option.map_map, -List.getElem?_map, -oX_some, -oW_some, -exL_nil, -decide_eq_true_eq, -Bool.or_eq_true, -Bool.and_eq_true, -bne_iff_ne, -beq_iff_eq, -ne_eq, -List.append_assoc, -ge_iff_le, -Int.ofNat_le, -List.length_append, -List.length_map, -List.map_map, -get_len0, -get_lenS, -ints_map, -strs_map, -strs_snoc] at h0)
          exact type_of% h0
        · exact rfl
        intro zK
        clear zK
        refine kk ?_ ?_
        · kernel_rfl
        rw [if_neg hi]
        refine kOut ((?_ : KT _ ?_) (kF ?_ ?_))
        rotate_left 2
        · intro h0
          repeat1' ((try rw [exL_x] at h0); simp [xthen_next, xthen_ret, xthen_brk, selB_t, selB_f, puts_nil, puts_cons, exL_e, exS_ifK, storesOk, v1, v2, v3, v4, v5, v6, v7, v8, g1, sub_fi, -exS_if, -Int.natCast_pos, -Int.ofNat_lt, -Int.pred_toNat, -Int.toNat_sub', -Option.some.injEq, -Int.natCast_eq_zero, -Bool.not_not, -Int.zero_add, -Int.add_zero, -Int.zero_sub, -Int.sub_neg, -Int.neg_neg, -Int.sub_zero, -Option.map_bind, -bne_self_eq_false, -List.set_append_right, -List.length_replicate, -List.flatten_replicate_singleton, -Nat.one_mul, -Nat.zero_add, -Option.map_map, -List.getElem?_map, -oX_some, -oW_some, -exL_nil, -decide_eq_true_eq, -Bool.or_eq_true, -Bool.and_eq_true, -bne_iff_ne, -beq_iff_eq, -ne_eq, -List.append_assoc, -ge_iff_le, -Int.ofNat_le, -List.length_append, -List.length_map, -List.map_map, -get_len0, -get_lenS, -ints_map, -strs_map, -strs_snoc] at h0)
          exact type_of% h0
        · exact rfl
        intro zK
        clear zK
        refine kk ?_ ?_
        · kernel_rfl
        generalize Float64.sub (Float64.mul h 4618441417868443648) (Float64.ofInt i) = ff at hF ⊢
        generalize Float64.mul v (Float64.sub 4607182418800017408 (Float64.mul s (Float64.sub 4607182418800017408 ff))) = tt at hF ⊢
        generalize Float64.mul v (Float64.sub 4607182418800017408 (Float64.mul s ff)) = qq at hF ⊢
        generalize Float64.mul v (Float64.sub 4607182418800017408 s) = pp at hF ⊢
        by_cases j0 : i.fmod 6 = 0
        · rw [if_pos j0] at hF
          refine hide fun zzG zzF => ?_
          obtain ⟨rfl, rfl, rfl⟩ := some3 hF
          refine zzF ?_
          clear zzF zzG
          refine xsel_eq j0 ?_
          refine kOut ((?_ : KT _ ?_) (kF ?_ ?_))
          rotate_left 2
          · intro h0
            repeat1' ((try rw [exL_x] at h0); simp [xthen_next, xthen_ret, xthen_brk, selB_t, selB_f, puts_nil, puts_cons, exL_e, exS_ifK, storesOk, v1, v2, v3, v4, v5, v6, v7, v8, g1, sub_fi, -exS_if, -Int.natCast_pos, -Int.ofNat_lt, -Int.pred_toNat, -Int.toNat_sub', -Option.some.injEq, -Int.natCast_eq_zero, -Bool.not_not, -Int.zero_add, -Int.add_zero, -Int.zero_sub, -Int.sub_neg, -Int.neg_neg, -Int.sub_zero, -Option.map_bind, -bne_self_eq_false, -List.set_append_right, -List.length_replicate, -List.flatten_replicate_singleton, -Nat.one_mul, -Nat.zero_add, -Option.map_map, -List.getElem?_map, -oX_some, -oW_some, -exL_nil, -decide_eq_true_eq, -Bool.or_eq_true, -Bool.and_eq_true, -bne_iff_ne, -beq_iff_eq, -ne_eq, -List.append_assoc, -ge_iff_le, -Int.ofNat_le, -List.length_append, -List.length_map, -List.map_map, -get_len0, -get_lenS, -ints_map, -strs_map, -strs_snoc] at h0)
            exact type_of% h0
          · exact rfl
          intro zK
          clear zK
          refine kk ?_ ?_
          · kernel_rfl
          exact ox_ret (hP _ _ _ ⟨pre_app List.prefix_rfl, _, rfl, get_len0⟩)
        rw [if_neg j0] at hF
        refine xsel_ne j0 ?_
        refine kOut ((?_ : KT _ ?_) (kF ?_ ?_))
        rotate_left 2
        · intro h0
          repeat1' ((try rw [exL_x] at h0); simp [xthen_next, xthen_ret, xthen_brk, selB_t, selB_f, puts_nil, puts_cons, exL_e, exS_ifK, storesOk, v1, v2, v3, v4, v5, v6, v7, v8, g1, sub_fi, -exS_if, -Int.natCast_pos, -Int.ofNat_lt, -Int.pred_toNat, -Int.toNat_sub', -Option.some.injEq, -Int.natCast_eq_zero, -Bool.not_not, -Int.zero_add, -Int.add_zero, -Int.zero_sub, -Int.sub_neg, -Int.neg_neg, -Int.sub_zero, -Option.map_bind, -bne_self_eq_false, -List.set_append_right, -List.length_replicate, -List.flatten_replicate_singleton, -Nat.one_mul, -Nat.zero_add, -Option.map_map, -List.getElem?_map, -oX_some, -oW_some, -exL_nil, -decide_eq_true_eq, -Bool.or_eq_true, -Bool.and_eq_true, -bne_iff_ne, -beq_iff_eq, -ne_eq, -List.append_assoc, -ge_iff_le, -Int.ofNat_le, -List.length_append, -List.length_map, -List.map_map, -get_len0, -get_lenS, -ints_map, -strs_map, -strs_snoc] at h0)
          exact type_of% h0
        · exact rfl
        intro zK
        clear zK
        refine kk ?_ ?_
        · kernel_rfl
        by_cases j1 : i.fmod 6 = 1
        · rw [if_pos j1] at hF
          refine hide fun zzG zzF => ?_
          obtain ⟨rfl, rfl, rfl⟩ := some3 hF
          refine zzF ?_
          clear zzF zzG
          refine xsel_eq j1 ?_
          refine kOut ((?_ : KT _ ?_) (kF ?_ ?_))
          rotate_left 2
          · intro h0
            repeat1' ((try rw [exL_x] at h0); simp [xthen_next, xthen_ret, xthen_brk, selB_t, selB_f, puts_nil, puts_cons, exL_e, exS_ifK, storesOk, v1, v2, v3, v4, v5, v6, v7, v8, g1, sub_fi, -exS_if, -Int.natCast_pos, -Int.ofNat_lt, -Int.pred_toNat, -Int.toNat_sub', -Option.some.injEq, -Int.natCast_eq_zero, -Bool.not_not, -Int.zero_add, -Int.add_zero, -Int.zero_sub, -Int.sub_neg, -Int.neg_neg, -Int.sub_zero, -Option.map_bind, -bne_self_eq_false, -List.set_append_right, -List.length_replicate, -List.flatten_replicate_singleton, -Nat.one_mul, -Nat.zero_add, -Option.map_map, -List.getElem?_map, -oX_some, -oW_some, -exL_nil, -decide_eq_true_eq, -Bool.or_eq_true, -Bool.and_eq_true, -bne_iff_ne, -beq_iff_eq, -ne_eq, -List.append_assoc, -ge_iff_le, -Int.ofNat_le, -List.length_append, -List.length_map, -List.map_map, -get_len0, -get_lenS, -ints_map, -strs_map, -strs_snoc] at h0)
            exact type_of% h0
          · exact rfl
          intro zK
          clear zK
          refine kk ?_ ?_
          · kernel_rfl
          exact ox_ret (hP _ _ _ ⟨pre_app List.prefix_rfl, _, rfl, get_len0⟩)
        rw [if_neg j1] at hF
        refine xsel_ne j1 ?_
        refine kOut ((?_ : KT _ ?_) (kF ?_ ?_))
        rotate_left 2
        · intro h0
          repeat1' ((try rw [exL_x] at h0); simp [xthen_next, xthen_ret, xthen_brk, selB_t, selB_f, puts_nil, puts_cons, exL_e, exS_ifK, storesOk, v1, v2, v3, v4, v5, v6, v7, v8, g1, sub_fi, -exS_if, -Int.natCast_pos, -Int.ofNat_lt, -Int.pred_toNat, -Int.toNat_sub', -Option.some.injEq, -Int.natCast_eq_zero, -Bool.not_not, -Int.zero_add, -Int.add_zero, -Int.zero_sub, -Int.sub_neg, -Int.neg_neg, -Int.sub_zero, -Option.map_bind, -bne_self_eq_false, -List.set_append_right, -List.length_replicate, -List.flatten_replicate_singleton, -Nat.one_mul, -Nat.zero_add, -Option.map_map, -List.getElem?_map, -oX_some, -oW_some, -exL_nil, -decide_eq_true_eq, -Bool.or_eq_true, -Bool.and_eq_true, -bne_iff_ne, -beq_iff_eq, -ne_eq, -List.append_assoc, -ge_iff_le, -Int.ofNat_le, -List.length_append, -List.length_map, -List.map_map, -get_len0, -get_lenS, -ints_map, -strs_map, -strs_snoc] at h0)
          exact type_of% h0
        · exact rfl
        intro zK
        clear zK
        refine kk ?_ ?_
        · kernel_rfl
        by_cases j2 : i.fmod 6 = 2
        · rw [if_pos j2] at hF
          refine hide fun zzG zzF => ?_
          obtain ⟨rfl, rfl, rfl⟩ := some3 hF
          refine zzF ?_
          clear zzF zzG
          refine xsel_eq j2 ?_
          refine kOut ((?_ : KT _ ?_) (kF ?_ ?_))
          rotate_left 2
          · intro h0
            repeat1' ((try rw [exL_x] at h0); simp [xthen_next, xthen_ret, xthen_brk, selB_t, selB_f, puts_nil, puts_cons, exL_e, exS_ifK, storesOk, v1, v2, v3, v4, v5, v6, v7, v8, g1, sub_fi, -exS_if, -Int.natCast_pos, -Int.ofNat_lt, -Int.pred_toNat, -Int.toNat_sub', -Option.some.injEq, -Int.natCast_eq_zero, -Bool.not_not, -Int.zero_add, -Int.add_zero, -Int.zero_sub, -Int.sub_neg, -Int.neg_neg, -Int.sub_zero, -Option.map_bind, -bne_self_eq_false, -List.set_append_right, -List.length_replicate, -List.flatten_replicate_singleton, -Nat.one_mul, -Nat.zero_add, -Option.map_map, -List.getElem?_map, -oX_some, -oW_some, -exL_nil, -decide_eq_true_eq, -Bool.or_eq_true, -Bool.and_eq_true, -bne_iff_ne, -beq_iff_eq, -ne_eq, -List.append_assoc, -ge_iff_le, -Int.ofNat_le, -List.length_append, -List.length_map, -List.map_map, -get_len0, -get_lenS, -ints_map, -strs_map, -strs_snoc] at h0)
            exact type_of% h0
          · exact rfl
          intro zK
          clear zK
          refine kk ?_ ?_
          · kernel_rfl
          exact ox_ret (hP _ _ _ ⟨pre_app List.prefix_rfl, _, rfl, get_len0⟩)
        rw [if_neg j2] at hF
        refine xsel_ne j2 ?_
        refine kOut ((?_ : KT _ ?_) (kF ?_ ?_))
        rotate_left 2
        · intro h0
          repeat1' ((try rw [exL_x] at h0); simp [xthen_next, xthen_ret, xthen_brk, selB_t, selB_f, puts_nil, puts_cons, exL_e, exS_ifK, storesOk, v1, v2, v3, v4, v5, v6, v7, v8, g1, sub_fi, -exS_if, -Int.natCast_pos, -Int.ofNat_lt, -Int.pred_toNat, -Int.toNat_sub', -Option.some.injEq, -Int.natCast_eq_zero, -Bool.not_not, -Int.zero_add, -Int.add_zero, -Int.zero_sub, -Int.sub_neg, -Int.neg_neg, -Int.sub_zero, -Option.map_bind, -bne_self_eq_false, -List.set_append_right, -List.length_replicate, -List.flatten_replicate_singleton, -Nat.one_mul, -Nat.zero_add, -Option.map_map, -List.getElem?_map, -oX_some, -oW_some, -exL_nil, -decide_eq_true_eq, -Bool.or_eq_true, -Bool.and_eq_true, -bne_iff_ne, -beq_iff_eq, -ne_eq, -List.append_assoc, -ge_iff_le, -Int.ofNat_le, -List.length_append, -List.length_map, -List.map_map, -get_len0, -get_lenS, -ints_map, -strs_map, -strs_snoc] at h0)
          exact type_of% h0
        · exact rfl
        intro zK
        clear zK
        refine kk ?_ ?_
        · kernel_rfl
        by_cases j3 : i.fmod 6 = 3
        · rw [if_pos j3] at hF
          refine hide fun zzG zzF => ?_
          obtain ⟨rfl, rfl, rfl⟩ := some3 hF
          refine zzF ?_
          clear zzF zzG
          refine xsel_eq j3 ?_
          refine kOut ((?_ : KT _ ?_) (kF ?_ ?_))
          rotate_left 2
          · intro h0
            repeat1' ((try rw [exL_x] at h0); simp [xthen_next, xthen_ret, xthen_brk, selB_t, selB_f, puts_nil, puts_cons, exL_e, exS_ifK, storesOk, v1, v2, v3, v4, v5, v6, v7, v8, g1, sub_fi, -exS_if, -Int.natCast_pos, -Int.ofNat_lt, -Int.pred_toNat, -Int.toNat_sub', -Option.some.injEq, -Int.natCast_eq_zero, -Bool.not_not, -Int.zero_add, -Int.add_zero, -Int.zero_sub, -Int.sub_neg, -Int.neg_neg, -Int.sub_zero, -Option.map_bind, -bne_self_eq_false, -List.set_append_right, -List.length_replicate, -List.flatten_replicate_singleton, -Nat.one_mul, -Nat.zero_add, -Option.map_map, -List.getElem?_map, -oX_some, -oW_some, -exL_nil, -decide_eq_true_eq, -Bool.or_eq_true, -Bool.and_eq_true, -bne_iff_ne, -beq_iff_eq, -ne_eq, -List.append_assoc, -ge_iff_le, -Int.ofNat_le, -List.length_append, -List.length_map, -List.map_map, -get_len0, -get_lenS, -ints_map, -strs_map, -strs_snoc] at h0)
            exact type_of% h0
          · exact rfl
          intro zK
          clear zK
          refine kk ?_ ?_
          · kernel_rfl
          exact ox_ret (hP _ _ _ ⟨pre_app List.prefix_rfl, _, rfl, get_len0⟩)
        rw [if_neg j3] at hF
        refine xsel_ne j3 ?_
        refine kOut ((?_ : KT _ ?_) (kF ?_ ?_))
        rotate_left 2
        · intro h0
          repeat1' ((try rw [exL_x] at h0); simp [xthen_next, xthen_ret, xthen_brk, selB_t, selB_f, puts_nil, puts_cons, exL_e, exS_ifK, storesOk, v1, v2, v3, v4, v5, v6, v7, v8, g1, sub_fi, -exS_if, -Int.natCast_pos, -Int.ofNat_lt, -Int.pred_toNat, -Int.toNat_sub', -Option.some.injEq, -Int.natCast_eq_zero, -Bool.not_not, -Int.zero_add, -Int.add_zero, -Int.zero_sub, -Int.sub_neg, -Int.neg_neg, -Int.sub_zero, -Option.map_bind, -bne_self_eq_false, -List.set_append_right, -List.length_replicate, -List.flatten_replicate_singleton, -Nat.one_mul, -Nat.zero_add, -Option.map_map, -List.getElem?_map, -oX_some, -oW_some, -exL_nil, -decide_eq_true_eq, -Bool.or_eq_true, -Bool.and_eq_true, -bne_iff_ne, -beq_iff_eq, -ne_eq, -List.append_assoc, -ge_iff_le, -Int.ofNat_le, -List.length_append, -List.length_map, -List.map_map, -get_len0, -get_lenS, -ints_map, -strs_map, -strs_snoc] at h0)
          exact type_of% h0
        · exact rfl
        intro zK
        clear zK
        refine kk ?_ ?_
        · kernel_rfl
        by_cases j4 : i.fmod 6 = 4
        · rw [if_pos j4] at hF
          refine hide fun zzG zzF => ?_
          obtain ⟨rfl, rfl, rfl⟩ := some3 hF
          refine zzF ?_
          clear zzF zzG
          refine xsel_eq j4 ?_
          refine kOut ((?_ : KT _ ?_) (kF ?_ ?_))
          rotate_left 2
          · intro h0
            repeat1' ((try rw [exL_x] at h0); simp [xthen_next, xthen_ret, xthen_brk, selB_t, selB_f, puts_nil, puts_cons, exL_e, exS_ifK, storesOk, v1, v2, v3, v4, v5, v6, v7, v8, g1, sub_fi, -exS_if, -Int.natCast_pos, -Int.ofNat_lt, -Int.pred_toNat, -Int.toNat_sub', -Option.some.injEq, -Int.natCast_eq_zero, -Bool.not_not, -Int.zero_add, -Int.add_zero, -Int.zero_sub, -Int.sub_neg, -Int.neg_neg, -Int.sub_zero, -Option.map_bind, -bne_self_eq_false, -List.set_append_right, -List.length_replicate, -List.flatten_replicate_singleton, -Nat.one_mul, -Nat.zero_add, -Option.map_map, -List.getElem?_map, -oX_some, -oW_some, -exL_nil, -decide_eq_true_eq, -Bool.or_eq_true, -Bool.and_eq_true, -bne_iff_ne, -beq_iff_eq, -ne_eq, -List.append_assoc, -ge_iff_le, -Int.ofNat_le, -List.length_append, -List.length_map, -List.map_map, -get_len0, -get_lenS, -ints_map, -strs_map, -strs_snoc] at h0)
            exact type_of% h0
          · exact rfl
          intro zK
          clear zK
          refine kk ?_ ?_
          · kernel_rfl
          exact ox_ret (hP _ _ _ ⟨pre_app List.prefix_rfl, _, rfl, get_len0⟩)
        rw [if_neg j4] at hF
        refine xsel_ne j4 ?_
        refine kOut ((?_ : KT _ ?_) (kF ?_ ?_))
        rotate_left 2
        · intro h0
          repeat1' ((try rw [exL_x] at h0); simp [xthen_next, xthen_ret, xthen_brk, selB_t, selB_f, puts_nil, puts_cons, exL_e, exS_ifK, storesOk, v1, v2, v3, v4, v5, v6, v7, v8, g1, sub_fi, -exS_if, -Int.natCast_pos, -Int.ofNat_lt, -Int.pred_toNat, -Int.toNat_sub', -Option.some.injEq, -Int.natCast_eq_zero, -Bool.not_not, -Int.zero_add, -Int.add_zero, -Int.zero_sub, -Int.sub_neg, -Int.neg_neg, -Int.sub_zero, -Option.map_bind, -bne_self_eq_false, -List.set_append_right, -List.length_replicate, -List.flatten_replicate_singleton, -Nat.one_mul, -Nat.zero_add, -Option.map_map, -List.getElem?_map, -oX_some, -oW_some, -exL_nil, -decide_eq_true_eq, -Bool.or_eq_true, -Bool.and_eq_true, -bne_iff_ne, -beq_iff_eq, -ne_eq, -List.append_assoc, -ge_iff_le, -Int.ofNat_le, -List.length_append, -List.length_map, -List.map_map, -get_len0, -get_lenS, -ints_map, -strs_map, -strs_snoc] at h0)
          exact type_of% h0
        · exact rfl
        intro zK
        clear zK
        refine kk ?_ ?_
        · kernel_rfl
        by_cases j5 : i.fmod 6 = 5
        · rw [if_pos j5] at hF
          refine hide fun zzG zzF => ?_
          obtain ⟨rfl, rfl, rfl⟩ := some3 hF
          refine zzF ?_
          clear zzF zzG
          refine xsel_eq j5 ?_
          refine kOut ((?_ : KT _ ?_) (kF ?_ ?_))
          rotate_left 2
          · intro h0
            repeat1' ((try rw [exL_x] at h0); simp [xthen_next, xthen_ret, xthen_brk, selB_t, selB_f, puts_nil, puts_cons, exL_e, exS_ifK, storesOk, v1, v2, v3, v4, v5, v6, v7, v8, g1, sub_fi, -exS_if, -Int.natCast_pos, -Int.ofNat_lt, -Int.pred_toNat, -Int.toNat_sub', -Option.some.injEq, -Int.natCast_eq_zero, -Bool.not_not, -Int.zero_add, -Int.add_zero, -Int.zero_sub, -Int.sub_neg, -Int.neg_neg, -Int.sub_zero, -Option.map_bind, -bne_self_eq_false, -List.set_append_right, -List.length_replicate, -List.flatten_replicate_singleton, -Nat.one_mul, -Nat.zero_add, -Option.map_map, -List.getElem?_map, -oX_some, -oW_some, -exL_nil, -decide_eq_true_eq, -Bool.or_eq_true, -Bool.and_eq_true, -bne_iff_ne, -beq_iff_eq, -ne_eq, -List.append_assoc, -ge_iff_le, -Int.ofNat_le, -List.length_append, -List.length_map, -List.map_map, -get_len0, -get_lenS, -ints_map, -strs_map, -strs_snoc] at h0)
            exact type_of% h0
          · exact rfl
          intro zK
          clear zK
          refine kk ?_ ?_
          · kernel_rfl
          exact ox_ret (hP _ _ _ ⟨pre_app List.prefix_rfl, _, rfl, get_len0⟩)
        rw [if_neg j5] at hF
        cases hF
    | _ => rw [hd] at hF; cases hF
noncomputable def intF (a : UInt64) : Option Int := truncV a
noncomputable def divII (x y : Int) : Option UInt64 := if y != 0 && !(Float64.isInf (Float64.ofFrac (decide (x < 0) != decide (y < 0)) x.natAbs y.natAbs)) then some (Float64.ofFrac (decide (x < 0) != decide (y < 0)) x.natAbs y.natAbs) else none
noncomputable def divIF (x : Int) (y : UInt64) : Option UInt64 := if !(Float64.isInf (Float64.ofInt x)) && !(Float64.isZero y) then some (Float64.div (Float64.ofInt x) y) else none
theorem div_ii {x y : Int} {d : UInt64} {H : AH} (h : divII x y = some d) : binop .Div (.int x) (.int y) H = some (.flt d, H) := by
  unfold divII at h
  split at h
  · rename_i h'
    injection h with h
    exact (if_pos h').trans (by rw [h])
  · cases h
theorem div_if {x : Int} {y d : UInt64} {H : AH} (h : divIF x y = some d) : binop .Div (.int x) (.flt y) H = some (.flt d, H) := by
  unfold divIF at h
  split at h
  · rename_i h'
    injection h with h
    exact (if_pos h').trans (by rw [h])
  · cases h
theorem bi_intF {a : UInt64} {i : Int} {H : AH} (h : intF a = some i) : builtin "int" [.flt a] H = some (.int i, H) := by
  unfold intF at h
  rw [bi_int, h]
  rfl
theorem paint_vars : (isVar (fN "_law_paint") "steps" = true ∧ isVar (fN "_law_paint") "size" = true ∧ isVar (fN "_law_paint") "quarters" = true ∧ isVar (fN "_law_paint") "red" = true ∧ isVar (fN "_law_paint") "green" = true ∧ isVar (fN "_law_paint") "blue" = true) ∧ isGlob (fN "_law_paint") "int" = true ∧ isGlob (fN "_law_paint") "hsv_to_rgb" = true := by decide +kernel
noncomputable def paintF (steps size quarters : Int) : Option Int :=
  (divII steps size).bind fun d1 => (divIF quarters 4616189618054758400).bind fun d2 => (divIF (size.fmod 2) 4611686018427387904).bind fun d3 =>
  (hsvF (Float64.add 4619567317775286272 d1) d2 (Float64.sub 4607182418800017408 d3)).bind fun q =>
  (intF (Float64.add (Float64.mul q.1 4634204016564240384) 4602678819172646912)).bind fun a =>
  (intF (Float64.add (Float64.mul q.2.1 4634204016564240384) 4602678819172646912)).bind fun b =>
  (intF (Float64.add (Float64.mul q.2.2 4634204016564240384) 4602678819172646912)).bind fun c => some (a * 10000 + b * 100 + c)
theorem paint_ok {b : Bool} {ns : List Int} {n : Nat} {H : AH} {steps size quarters x : Int} (hF : paintF steps size quarters = some x) :
    oW ((ev b ns (n + 30)).call "_law_paint" [.int steps, .int size, .int quarters] H) fun w H' => H <+: H' ∧ w = .int x := by
  rw [call_ev (by decide +kernel)]
  refine hide fun zzG zzF => ?_
  obtain ⟨⟨v1, v2, v3, v4, v5, v6⟩, g1, g2⟩ := paint_vars
  refine zzF ?_
  clear zzF zzG
  refine call_K (ps := ["steps", "size", "quarters"]) (N := fN "_law_paint") rfl rfl (by decide +kernel) fun P hP => ?_
  unfold paintF at hF
  simp only [Option.bind_eq_some_iff] at hF
  refine hide fun zzG zzF => ?_
  obtain ⟨d1, h1, d2, h2, d3, h3, ⟨r, g, u⟩, h4, a, h5, b', h6, c, h7, h8⟩ := hF
  refine zzF ?_
  clear zzF zzG
  injection h8 with h8
  have s1 : small 10000 = true := small_lit (by decide) (by decide)
  have s2 : small 100 = true := small_lit (by decide) (by decide)
  repeat
    first
    | refine kOut ((?_ : KT _ ?_) (kF ?_ ?_))
      rotate_left 2
      · intro h0
        repeat1' ((try rw [exL_x] at h0); simp [xthen_next, xthen_ret, xthen_brk, selB_t, selB_f, puts_nil, puts_cons, exL_e, exS_ifK, storesOk, v1, v2, v3, v4, v5, v6, g1, g2, tupAt, -exS_if, -Int.natCast_pos, -Int.ofNat_lt, -Int.pred_toNat, -Int.toNat_sub', -Option.some.injEq, -Int.natCast_eq_zero, -Bool.not_not, -Int.zero_add, -Int.add_zero, -Int.zero_sub, -Int.sub_neg, -Int.neg_neg, -Int.sub_zero, -Option.map_bind, -bne_self_eq_false, -List.set_append_right, -List.length_replicate, -List.flatten_replicate_singleton, -Nat.one_mul, -Nat.zero_add, -Option.map_map, -List.getElem?_map, -oX_some, -oW_some, -exL_nil, -decide_eq_true_eq, -Bool.or_eq_true, -Bool.and_eq_true, -bne_iff_ne, -beq_iff_eq, -ne_eq, -List.append_assoc, -ge_iff_le, -Int.ofNat_le, -List.length_append, -List.length_map, -List.map_map, -get_len0, -get_lenS, -ints_map, -strs_map, -strs_snoc] at h0)
        exact type_of% h0
      · exact rfl
      intro zK
      clear zK
      refine kk ?_ ?_
      · kernel_rfl
    | simp only [div_ii h1, div_if h2, div_if h3, bi_len_s, bne_self_eq_false, Bool.false_eq_true, if_false, decide_true, assignO_list, lenO_list, lenO_tup, getO_list, getO_tup, List.length_map, Bool.true_or, Bool.or_true, Bool.and_self, Bool.true_and, Bool.and_true, eq_self, if_true]
  rw [ox_bind]
  refine oW_mono (hsv_ok h4) ?_
  rintro w H' ⟨hp, k, rfl, hk⟩
  have t5 : truncV (Float64.add (Float64.mul r 4634204016564240384) 4602678819172646912) = some a := h5
  have t6 : truncV (Float64.add (Float64.mul g 4634204016564240384) 4602678819172646912) = some b' := h6
  have t7 : truncV (Float64.add (Float64.mul u 4634204016564240384) 4602678819172646912) = some c := h7
  repeat
    first
    | refine kOut ((?_ : KT _ ?_) (kF ?_ ?_))
      rotate_left 2
      · intro h0
        repeat1' ((try rw [exL_x] at h0); simp [xthen_next, xthen_ret, xthen_brk, selB_t, selB_f, puts_nil, puts_cons, exL_e, exS_ifK, storesOk, v1, v2, v3, v4, v5, v6, g1, g2, tupAt, -exS_if, -Int.natCast_pos, -Int.ofNat_lt, -Int.pred_toNat, -Int.toNat_sub', -Option.some.injEq, -Int.natCast_eq_zero, -Bool.not_not, -Int.zero_add, -Int.add_zero, -Int.zero_sub, -Int.sub_neg, -Int.neg_neg, -Int.sub_zero, -Option.map_bind, -bne_self_eq_false, -List.set_append_right, -List.length_replicate, -List.flatten_replicate_singleton, -Nat.one_mul, -Nat.zero_add, -Option.map_map, -List.getElem?_map, -oX_some, -oW_some, -exL_nil, -decide_eq_true_eq, -Bool.or_eq_true, -Bool.and_eq_true, -bne_iff_ne, -beq_iff_eq, -ne_eq, -List.append_assoc, -ge_iff_le, -Int.ofNat_le, -List.length_append, -List.length_map, -List.map_map, -get_len0, -get_lenS, -ints_map, -strs_map, -strs_snoc] at h0)
        exact type_of% h0
      · exact rfl
      intro zK
      clear zK
      refine kk ?_ ?_
      · kernel_rfl
    | simp only [hk, t5, t6, t7, s1, s2, bi_len_s, bne_self_eq_false, Bool.false_eq_true, if_false, decide_true, assignO_list, lenO_list, lenO_tup, getO_list, getO_tup, List.length_map, Bool.true_or, Bool.or_true, Bool.and_self, Bool.true_and, Bool.and_true, eq_self, if_true]
  exact ox_ret (hP _ _ _ ⟨hp, congrArg AV.int h8⟩)
end Mine.L
end
section
/-! Contracts: many. -/
namespace Mine.L
open PySem
set_option maxRecDepth 100000
set_option linter.unusedSimpArgs false

theorem eqs_ints (n : Nat) (H : AH) : ∀ x y : List Int, eqs (eqV (n + 1) H) (x.map AV.int) (y.map AV.int) = some (x == y)
  | [], [] => rfl
  | [], _ :: _ => rfl
  | _ :: _, [] => rfl
  | a :: r, b :: q => by
    have h := eqs_ints n H r q
    simp only [List.map_cons, eqs, h, eqV_ii]
    rfl
theorem ne_ints {H : AH} {j k : Nat} {x y : List Int} (h1 : H[j]? = some (.list (x.map AV.int))) (h2 : H[k]? = some (.list (y.map AV.int))) : cmpop .NotEq (.ref j) (.ref k) H = some (x != y) := by
  show neg? (eqV 3 H (.ref j) (.ref k)) = _
  rw [eqV_rr, eqR_ll h1 h2, eqs_ints 1 H x y]
  rfl
theorem eq_dict {H : AH} {j k : Nat} {x : List (Int × Int)} (h1 : H[j]? = some (.dict x)) (h2 : H[k]? = some (.dict [])) : cmpop .Eq (.ref j) (.ref k) H = some x.isEmpty := by
  show (if emptyAt H k = true then (dictAt H j).map List.isEmpty else _) = _
  rw [if_pos (by unfold emptyAt; rw [dictAt_of h2]), dictAt_of h1]
  rfl

theorem comp_finG {α : Type} {bind : List AV → AL → Option AL} {ok : AL → AH → Option (Bool × AH)} {elt : AL → AH → Option (AV × AH)} {g : AH → Bool} {H₀ : AH} {R : AH → Prop} (f : α → List AV) (J : AL → Prop) (F : α → AV) (hg : ∀ X G, g (H₀ ++ X :: G) = true)
    (vs : List α) (lc : AL) (j : J lc) (hz : vs.length ≤ 1000000)
    (step : ∀ v ∈ vs, ∀ lc', J lc' → ∃ l₁, bind (f v) lc' = some l₁ ∧ J l₁ ∧ ∀ X G, ok l₁ (H₀ ++ X :: G) = some (true, H₀ ++ X :: G) ∧ ∃ G₂, elt l₁ (H₀ ++ X :: G) = some (F v, H₀ ++ X :: G₂))
    (k : ∀ G, R (H₀ ++ .list (vs.map F) :: G)) : ∃ H₂, compIt bind ok elt g H₀.length (vs.map f) lc (H₀ ++ [.list []]) = some H₂ ∧ R H₂ := by
  obtain ⟨G, h⟩ := comp_mapG f J F hg vs lc j hz step
  exact ⟨_, h, k G⟩
theorem elt_of {H₀ G : AH} {X : AO} {o : Option (AV × AH)} {w : AV} (h : oW o fun v H' => (H₀ ++ X :: G) <+: H' ∧ v = w) : ∃ G₂, o = some (w, H₀ ++ X :: G₂) := by
  obtain ⟨v, H', e, ⟨L, rfl⟩, rfl⟩ := h
  exact ⟨G ++ L, by rw [e]; simp⟩
theorem comp_range {b : Bool} {ns : List Int} {n : Nat} {N : Names} {l : AL} {H : AH} {elt tg a c : Expr} {q p : Pos} {ifs : List Expr} {sc : Scope} {R : AV → AH → Prop} {i j : Int} {cnt : Nat} (J : AL → Prop) (F : Nat → AV)
    (hr : (isGlob N "range" && plainArgs [a, c]) = true) (ht : soleTarget tg = true) (hok : compOk N sc = true) (e1 : (ev b ns n).e a N l H = some (.int i, H)) (e2 : (ev b ns n).e c N l H = some (.int j, H)) (hs : (small i && small j) = true)
    (hc : (j - i).toNat = cnt) (hz : cnt ≤ 1000000) (j0 : J (compLocals sc.names l))
    (step : ∀ m, m < cnt → ∀ lc', J lc' → ∃ l₁, bindK sc.names tg [.int (i + (m : Nat))] lc' = some l₁ ∧ J l₁ ∧ ∀ X G, tests (ev b ns n) (compNames sc.names) l₁ ifs (H ++ X :: G) = some (true, H ++ X :: G) ∧ ∃ G₂, (ev b ns n).e elt (compNames sc.names) l₁ (H ++ X :: G) = some (F m, H ++ X :: G₂))
    (k : ∀ G, R (.ref H.length) (H ++ .list ((List.range cnt).map F) :: G)) : oW (evComp (ev b ns n) N l H elt tg (.Call (.Name "range" q) [a, c] [] p) ifs sc) R := by
  refine ev_comp hok ?_
  refine it_range2 hr ht ?_
  refine ⟨_, _, e1, _, _, e2, i, j, rfl, rfl, hs, ?_⟩
  unfold rangeL
  rw [hc]
  exact comp_finG (H₀ := H) (fun (m : Nat) => [AV.int (i + m)]) J F (fun _ _ => rfl) (List.range cnt) _ j0 (by simpa using hz) (fun m hm => step m (List.mem_range.mp hm)) k
structure CA where
  c : List (Int × Int)
  a : List (Int × Int)
noncomputable def caS (ps : List Int) (tally : List (Int × Int)) (lowest : Int) (i : Nat) (s : CA) : CA :=
  ⟨putD (ps.getD i 0) ((s.c.lookup (ps.getD i 0)).getD 0 + (tally.lookup (lowest + i)).getD 0) s.c, putD (ps.getD i 0) (ps.getD (i + 1) 0) s.a⟩
noncomputable def caA (ps : List Int) (tally : List (Int × Int)) (lowest : Int) : Nat → CA
  | 0 => ⟨[], []⟩
  | i + 1 => caS ps tally lowest i (caA ps tally lowest i)
theorem caA_len (ps : List Int) (tally : List (Int × Int)) (lowest : Int) : ∀ i, (caA ps tally lowest i).c.length ≤ i ∧ (caA ps tally lowest i).a.length ≤ i
  | 0 => ⟨Nat.le_refl _, Nat.le_refl _⟩
  | i + 1 => by
    have h := caA_len ps tally lowest i
    have h1 := putD_len (ps.getD i 0) (((caA ps tally lowest i).c.lookup (ps.getD i 0)).getD 0 + (tally.lookup (lowest + i)).getD 0) (caA ps tally lowest i).c
    have h2 := putD_len (ps.getD i 0) (ps.getD (i + 1) 0) (caA ps tally lowest i).a
    exact ⟨by simp only [caA, caS]; omega, by simp only [caA, caS]; omega⟩
noncomputable def small0 (n : Int) : Bool := decide (-1000000 ≤ n ∧ n ≤ 1000000)
theorem small_of0 {i : Int} (h : small0 i = true) : small i = true := small_lit (by have := of_decide_eq_true h; omega) (by have := of_decide_eq_true h; omega)
noncomputable def manyL (s : CA) : List (Int × Int) → Int → Option Int
  | [], m => some m
  | p :: r, m => match s.c.lookup p.1, s.a.lookup p.1 with
    | some v, some w => if small0 p.1 && small0 v then manyL s r (m + v * ((s.c.lookup w).getD 0 - v)) else none
    | _, _ => none
noncomputable def manyF (ps : List Int) (tally : List (Int × Int)) (lowest : Int) : Option Int :=
  let s := caA ps tally lowest (ps.length - 1)
  match s.c.lookup (ps.getD (0 - lowest).toNat 0) with
  | some v => if small0 (ps.getD (0 - lowest).toNat 0) then manyL s s.c v else none
  | none => none
noncomputable def quartF (size : Int) : Int := 4 - size.fmod 4
noncomputable def stopsF (lowest r0 : Int) (f : Int → Int) : List Int := (List.range (r0 + 1 - lowest).toNat).map fun (i : Nat) => f (lowest + i)
theorem quart_bd (size : Int) : 0 ≤ quartF size ∧ quartF size ≤ 4 := by
  have a := Int.fmod_nonneg_of_pos size (show (0 : Int) < 4 by decide)
  have b := Int.fmod_lt_of_pos size (show (0 : Int) < 4 by decide)
  unfold quartF
  omega
theorem many_vars : (isVar (fN "_law_many") "rows" = true ∧ isVar (fN "_law_many") "tally" = true ∧ isVar (fN "_law_many") "size" = true ∧ isVar (fN "_law_many") "lowest" = true ∧ isVar (fN "_law_many") "paints" = true ∧ isVar (fN "_law_many") "cells" = true ∧ isVar (fN "_law_many") "after" = true ∧ isVar (fN "_law_many") "k" = true ∧ isVar (fN "_law_many") "many" = true ∧ isVar (fN "_law_many") "paint" = true) ∧ isGlob (fN "_law_many") "len" = true ∧ isGlob (fN "_law_many") "range" = true ∧ isGlob (fN "_law_many") "_law_paint" = true ∧ isGlob (fN "_law_many") "_law_due" = true := by decide +kernel
structure ManyI (X3 : AH) (rp t : Nat) (low : Int) (s : CA) (rc ra : Nat) (l : AL) (X : AH) : Prop where
  e1 : l "paints" = some (.ref rp)
  e2 : l "tally" = some (.ref t)
  e3 : l "lowest" = some (.int low)
  e4 : l "cells" = some (.ref rc)
  e5 : l "after" = some (.ref ra)
  hp : X3 <+: X
  hc : X3.length ≤ rc
  ha : X3.length ≤ ra
  hn : rc ≠ ra
  d1 : X[rc]? = some (.dict s.c)
  d2 : X[ra]? = some (.dict s.a)
noncomputable def ManyJ (X3 : AH) (rp t : Nat) (low : Int) (s : CA) (l : AL) (X : AH) : Prop := ∃ rc ra, ManyI X3 rp t low s rc ra l X
theorem manyJ_of {X3 : AH} {rp t : Nat} {low : Int} {s : CA} {l : AL} {X : AH} (rc ra : Nat) (h : ManyI X3 rp t low s rc ra l X) : ManyJ X3 rp t low s l X := ⟨rc, ra, h⟩
structure ManyK (s : CA) (m : Int) (rc ra : Nat) (rest : List (Int × Int)) (m0 : Int) (l : AL) (X0 X : AH) : Prop where
  e4 : l "cells" = some (.ref rc)
  e5 : l "after" = some (.ref ra)
  e6 : l "many" = some (.int m0)
  ho : X = X0
  hm : manyL s rest m0 = some m
noncomputable def ManyL (s : CA) (m : Int) (rc ra : Nat) (X0 : AH) (vs : List (List AV)) (l : AL) (X : AH) : Prop := ∃ rest m0, vs = rest.map (fun p : Int × Int => [AV.int p.1]) ∧ ManyK s m rc ra rest m0 l X0 X
theorem many_none {b : Bool} {ns : List Int} {n : Nat} {H : AH} {k t size : Nat} (ht : H[t]? = some (.dict [])) :
    oW ((ev b ns (n + 40)).call "_law_many" [.ref k, .ref t, .int size] H) fun w H' => H <+: H' ∧ w = .int 0 := by
  rw [call_ev (by decide +kernel)]
  refine hide fun hG hF => ?_
  obtain ⟨⟨v1, v2, v3, v4, v5, v6, v7, v8, v9, v10⟩, g1, g2, g3, g4⟩ := many_vars
  refine hF ?_
  clear hF hG
  refine call_of (ps := ["rows", "tally", "size"]) (N := fN "_law_many") rfl rfl (by decide +kernel) ?_
  rw [x_ev, exL_cons]
  try simp [v2, eq_dict (get_app ht) (show (H ++ [AO.dict []])[H.length]? = some (.dict []) by simp)]
  repeat (rw [exL_cons]; simp [v2, eq_dict (get_app ht) (show (H ++ [AO.dict []])[H.length]? = some (.dict []) by simp)])
  try simp
  repeat (rw [exL_cons]; simp)
theorem many_ok {b : Bool} {ns : List Int} {n : Nat} {H : AH} {k t size : Nat} {r0 : Int} {rows : List Int} {tally : List (Int × Int)} {m : Int} (hk : H[k]? = some (.list ((r0 :: rows).map .int))) (ht : H[t]? = some (.dict tally)) (hne : tally.isEmpty = false)
    (hz : rows.length ≤ 20) (hr0 : 0 ≤ r0) (hr1 : r0 ≤ 20) (hsz : 0 < size) (hsz2 : size ≤ 100)
    (hp1 : ∀ i, -(rows.length : Int) ≤ i → i ≤ r0 → paintF i size (quartF size) = some (dueF i size (quartF size)))
    (hp2 : paintF (-(rows.length : Int)) size 0 = some (dueF (-(rows.length : Int)) size 0))
    (hm : manyF (stopsF (-(rows.length : Int)) r0 fun i => dueF i size (quartF size)) tally (-(rows.length : Int)) = some m) :
    oW ((ev b ns (n + 40)).call "_law_many" [.ref k, .ref t, .int size] H) fun w H' => H <+: H' ∧ w = .int m := by
  rw [call_ev (by decide +kernel)]
  refine hide fun hG hF => ?_
  obtain ⟨⟨v1, v2, v3, v4, v5, v6, v7, v8, v9, v10⟩, g1, g2, g3, g4⟩ := many_vars
  refine hF ?_
  clear hF hG
  refine call_K (ps := ["rows", "tally", "size"]) (N := fN "_law_many") rfl rfl (by decide +kernel) fun P hRet => ?_
  have hs1 : sizeOk (r0 :: rows).length = true := size_le (by simp; omega)
  simp only [List.length_cons] at hs1
  have hlow : (1 : Int) - ((rows.length : Int) + 1) = -(rows.length : Int) := by omega
  skip
  repeat
    first
    | refine kOut ((?_ : KT _ ?_) (kF ?_ ?_))
      rotate_left 2
      · intro h0
        repeat1' ((try rw [exL_x] at h0); simp [xthen_next, xthen_ret, xthen_brk, selB_t, selB_f, puts_nil, puts_cons, exL_e, exS_ifK, storesOk, listAt, tupAt, v1, v2, v3, v4, v5, v6, v7, v8, v9, v10, g1, g2, g3, g4, -exS_if, -Int.natCast_pos, -Int.ofNat_lt, -Int.pred_toNat, -Int.toNat_sub', -Option.some.injEq, -Int.natCast_eq_zero, -Bool.not_not, -Int.zero_add, -Int.add_zero, -Int.zero_sub, -Int.sub_neg, -Int.neg_neg, -Int.sub_zero, -Option.map_bind, -bne_self_eq_false, -List.set_append_right, -List.length_replicate, -List.flatten_replicate_singleton, -Nat.one_mul, -Nat.zero_add, -Option.map_map, -List.getElem?_map, -oX_some, -oW_some, -exL_nil, -decide_eq_true_eq, -Bool.or_eq_true, -Bool.and_eq_true, -bne_iff_ne, -beq_iff_eq, -ne_eq, -List.append_assoc, -ge_iff_le, -Int.ofNat_le, -List.length_append, -List.length_map, -List.map_map, -get_len0, -get_lenS, -ints_map, -strs_map, -strs_snoc] at h0)
        exact type_of% h0
      · exact rfl
      intro zK
      clear zK
      refine kk ?_ ?_
      · kernel_rfl
    | simp only [eq_dict (get_app ht) (show (H ++ [AO.dict []])[H.length]? = some (.dict []) by simp), hne, bi_len_s, bne_self_eq_false, Bool.false_eq_true, if_false, decide_true, assignO_list, lenO_list, lenO_tup, getO_list, getO_tup, List.length_map, Bool.true_or, Bool.or_true, Bool.and_self, Bool.true_and, Bool.and_true, eq_self, if_true]
  repeat
    first
    | refine kOut ((?_ : KT _ ?_) (kF ?_ ?_))
      rotate_left 2
      · intro h0
        repeat1' ((try rw [exL_x] at h0); simp [xthen_next, xthen_ret, xthen_brk, selB_t, selB_f, puts_nil, puts_cons, exL_e, exS_ifK, storesOk, listAt, tupAt, v1, v2, v3, v4, v5, v6, v7, v8, v9, v10, g1, g2, g3, g4, -exS_if, -Int.natCast_pos, -Int.ofNat_lt, -Int.pred_toNat, -Int.toNat_sub', -Option.some.injEq, -Int.natCast_eq_zero, -Bool.not_not, -Int.zero_add, -Int.add_zero, -Int.zero_sub, -Int.sub_neg, -Int.neg_neg, -Int.sub_zero, -Option.map_bind, -bne_self_eq_false, -List.set_append_right, -List.length_replicate, -List.flatten_replicate_singleton, -Nat.one_mul, -Nat.zero_add, -Option.map_map, -List.getElem?_map, -oX_some, -oW_some, -exL_nil, -decide_eq_true_eq, -Bool.or_eq_true, -Bool.and_eq_true, -bne_iff_ne, -beq_iff_eq, -ne_eq, -List.append_assoc, -ge_iff_le, -Int.ofNat_le, -List.length_append, -List.length_map, -List.map_map, -get_len0, -get_lenS, -ints_map, -strs_map, -strs_snoc] at h0)
        exact type_of% h0
      · exact rfl
      intro zK
      clear zK
      refine kk ?_ ?_
      · kernel_rfl
    | simp only [get_app hk, List.length_cons, hs1, Int.natCast_add, Int.cast_ofNat_Int, hlow, bi_len_s, bne_self_eq_false, Bool.false_eq_true, if_false, decide_true, assignO_list, lenO_list, lenO_tup, getO_list, getO_tup, List.length_map, Bool.true_or, Bool.or_true, Bool.and_self, Bool.true_and, Bool.and_true, eq_self, if_true]
  have hkX := get_app (G := [AO.dict []]) hk
  have htX := get_app (G := [AO.dict []]) ht
  have hpX := pre_app (L := [AO.dict []]) (List.prefix_rfl (l := H))
  generalize H ++ [AO.dict []] = X at hkX htX hpX
  have sm0 : small 0 = true := small_lit (by decide) (by decide)
  have sl : small (-(rows.length : Int)) = true := small_lit (by omega) (by omega)
  have sr : small (r0 + 1) = true := small_lit (by omega) (by omega)
  have ssz : small (size : Int) = true := small_lit (by omega) (by omega)
  have hq4 : (4 : Int) - (size : Int).fmod 4 = quartF size := rfl
  rw [exL_x, exS_ncomp v5]; refine ox_bindI ?_
  generalize hst : (r0 + 1 - -(rows.length : Int)).toNat = cnt
  have hP : stopsF (-(rows.length : Int)) r0 (fun i => dueF i size (quartF size)) = (List.range cnt).map fun (i : Nat) => dueF (-(rows.length : Int) + i) size (quartF size) := by
    unfold stopsF
    rw [hst]
  rw [hP] at hm
  refine comp_range (i := -(rows.length : Int)) (j := r0 + 1) (fun lc => lc "size" = some (.int size)) (fun i => .int (dueF (-(rows.length : Int) + i) size (quartF size))) (by rw [g2]; rfl) rfl (by decide +kernel) (by simp [v4]) (by simp [v1, hkX, sm0]) (by simp [sl, sr]) hst (by omega) ?_ ?_ ?_
  · simp [compLocals, List.lookup_cons]
  · intro i hi lc hlc
    simp [isVar, isGlob, compNames, List.lookup_cons, hlc, hq4]
    intro X0 G
    refine elt_of (paint_ok (hp1 _ ?_ ?_)) <;> omega
  intro G
  rw [show ((List.range cnt).map fun (i : Nat) => AV.int (dueF (-(rows.length : Int) + i) size (quartF size))) = ((List.range cnt).map fun (i : Nat) => dueF (-(rows.length : Int) + i) size (quartF size)).map AV.int by simp]
  have hPlen : ((List.range cnt).map fun (i : Nat) => dueF (-(rows.length : Int) + i) size (quartF size)).length = cnt := by simp
  have hPP : ((List.range cnt).map fun (i : Nat) => AV.int (dueF (-(rows.length : Int) + i) size (quartF size))) = ((List.range cnt).map fun (i : Nat) => dueF (-(rows.length : Int) + i) size (quartF size)).map AV.int := by simp
  generalize hPs : ((List.range cnt).map fun (i : Nat) => dueF (-(rows.length : Int) + i) size (quartF size)) = ps at hm hPlen hPP ⊢
  have hk1 := get_app (G := AO.list (ps.map AV.int) :: G) hkX
  have ht1 := get_app (G := AO.list (ps.map AV.int) :: G) htX
  have hp1' := pre_app (L := AO.list (ps.map AV.int) :: G) hpX
  have hl1 := get_len0 (X := X) (L := AO.list (ps.map AV.int) :: G)
  generalize X.length = rp at hl1 ⊢
  generalize X ++ AO.list (ps.map AV.int) :: G = X1 at hk1 ht1 hp1' hl1 ⊢
  simp only [List.getElem?_cons_zero] at hl1
  refine kOut ((?_ : KT _ ?_) (kF ?_ ?_))
  rotate_left 2
  · intro h0
    repeat1' ((try rw [exL_x] at h0); simp [xthen_next, xthen_ret, xthen_brk, selB_t, selB_f, puts_nil, puts_cons, exL_e, exS_ifK, storesOk, listAt, tupAt, v1, v2, v3, v4, v5, v6, v7, v8, v9, v10, g1, g2, g3, g4, -exS_if, -Int.natCast_pos, -Int.ofNat_lt, -Int.pred_toNat, -Int.toNat_sub', -Option.some.injEq, -Int.natCast_eq_zero, -Bool.not_not, -Int.zero_add, -Int.add_zero, -Int.zero_sub, -Int.sub_neg, -Int.neg_neg, -Int.sub_zero, -Option.map_bind, -bne_self_eq_false, -List.set_append_right, -List.length_replicate, -List.flatten_replicate_singleton, -Nat.one_mul, -Nat.zero_add, -Option.map_map, -List.getElem?_map, -oX_some, -oW_some, -exL_nil, -decide_eq_true_eq, -Bool.or_eq_true, -Bool.and_eq_true, -bne_iff_ne, -beq_iff_eq, -ne_eq, -List.append_assoc, -ge_iff_le, -Int.ofNat_le, -List.length_append, -List.length_map, -List.map_map, -get_len0, -get_lenS, -ints_map, -strs_map, -strs_snoc] at h0)
    exact type_of% h0
  · exact rfl
  intro zK
  clear zK
  refine kk ?_ ?_
  · kernel_rfl
  try with_reducible refine ox_bindI ?_
  repeat with_reducible refine oW_bindI ?_
  rw [e_comp]
  refine comp_range (i := -(rows.length : Int)) (j := r0 + 1) (fun lc => lc "size" = some (.int size)) (fun i => .int (dueF (-(rows.length : Int) + i) size (quartF size))) (by rw [g2]; rfl) rfl (by decide +kernel) (by simp [v4]) (by simp [v1, hk1, sm0]) (by simp [sl, sr]) hst (by omega) ?_ ?_ ?_
  · simp [compLocals, List.lookup_cons]
  · intro i hi lc hlc
    simp [isVar, isGlob, compNames, List.lookup_cons, hlc, hq4]
    intro X0 G
    have hb := quart_bd size
    exact elt_of (due_ok (by omega) (by omega) hb.1 (by omega))
  intro G2
  rw [hPP]
  have hk2 := get_app (G := AO.list (ps.map AV.int) :: G2) hk1
  have ht2 := get_app (G := AO.list (ps.map AV.int) :: G2) ht1
  have hp2' := pre_app (L := AO.list (ps.map AV.int) :: G2) hp1'
  have hl2 := get_app (G := AO.list (ps.map AV.int) :: G2) hl1
  have hl3 := get_len0 (X := X1) (L := AO.list (ps.map AV.int) :: G2)
  generalize X1.length = rq at hl3 ⊢
  generalize X1 ++ AO.list (ps.map AV.int) :: G2 = X2 at hk2 ht2 hp2' hl2 hl3 ⊢
  simp only [List.getElem?_cons_zero] at hl3
  simp [ne_ints hl2 hl3]
  refine kOut ((?_ : KT _ ?_) (kF ?_ ?_))
  rotate_left 2
  · intro h0
    repeat1' ((try rw [exL_x] at h0); simp [xthen_next, xthen_ret, xthen_brk, selB_t, selB_f, puts_nil, puts_cons, exL_e, exS_ifK, storesOk, listAt, tupAt, v1, v2, v3, v4, v5, v6, v7, v8, v9, v10, g1, g2, g3, g4, -exS_if, -Int.natCast_pos, -Int.ofNat_lt, -Int.pred_toNat, -Int.toNat_sub', -Option.some.injEq, -Int.natCast_eq_zero, -Bool.not_not, -Int.zero_add, -Int.add_zero, -Int.zero_sub, -Int.sub_neg, -Int.neg_neg, -Int.sub_zero, -Option.map_bind, -bne_self_eq_false, -List.set_append_right, -List.length_replicate, -List.flatten_replicate_singleton, -Nat.one_mul, -Nat.zero_add, -Option.map_map, -List.getElem?_map, -oX_some, -oW_some, -exL_nil, -decide_eq_true_eq, -Bool.or_eq_true, -Bool.and_eq_true, -bne_iff_ne, -beq_iff_eq, -ne_eq, -List.append_assoc, -ge_iff_le, -Int.ofNat_le, -List.length_append, -List.length_map, -List.map_map, -get_len0, -get_lenS, -ints_map, -strs_map, -strs_snoc] at h0)
    exact type_of% h0
  · exact rfl
  intro zK
  clear zK
  refine kk ?_ ?_
  · kernel_rfl
  try with_reducible refine ox_bindI ?_
  repeat with_reducible refine oW_bindI ?_
  refine oW_mono (paint_ok hp2) ?_
  rintro w X3 ⟨hp3, rfl⟩
  repeat with_reducible refine oW_bindI ?_
  refine oW_mono (due_ok (by omega) (by omega) (by omega) (by omega)) ?_
  rintro w X4 ⟨hp4, rfl⟩
  have hk4 := pre_at hp4 (pre_at hp3 hk2)
  have ht4 := pre_at hp4 (pre_at hp3 ht2)
  have hl4 := pre_at hp4 (pre_at hp3 hl2)
  have hpx4 := hp2'.trans (hp3.trans hp4)
  clear hp4 hp3 hk2 ht2 hl2 hl3 hp2' hk1 ht1 hl1 hp1' hkX htX hpX
  have sps : sizeOk cnt = true := size_le (by omega)
  have scn : small ((cnt : Int) - 1) = true := small_lit (by omega) (by omega)
  refine kOut ((?_ : KT _ ?_) (kF ?_ ?_))
  rotate_left 2
  · intro h0
    repeat1' ((try rw [exL_x] at h0); simp [xthen_next, xthen_ret, xthen_brk, selB_t, selB_f, puts_nil, puts_cons, exL_e, exS_ifK, storesOk, listAt, tupAt, v1, v2, v3, v4, v5, v6, v7, v8, v9, v10, g1, g2, g3, g4, -exS_if, -Int.natCast_pos, -Int.ofNat_lt, -Int.pred_toNat, -Int.toNat_sub', -Option.some.injEq, -Int.natCast_eq_zero, -Bool.not_not, -Int.zero_add, -Int.add_zero, -Int.zero_sub, -Int.sub_neg, -Int.neg_neg, -Int.sub_zero, -Option.map_bind, -bne_self_eq_false, -List.set_append_right, -List.length_replicate, -List.flatten_replicate_singleton, -Nat.one_mul, -Nat.zero_add, -Option.map_map, -List.getElem?_map, -oX_some, -oW_some, -exL_nil, -decide_eq_true_eq, -Bool.or_eq_true, -Bool.and_eq_true, -bne_iff_ne, -beq_iff_eq, -ne_eq, -List.append_assoc, -ge_iff_le, -Int.ofNat_le, -List.length_append, -List.length_map, -List.map_map, -get_len0, -get_lenS, -ints_map, -strs_map, -strs_snoc] at h0)
    exact type_of% h0
  · exact rfl
  intro zK
  clear zK
  refine kk ?_ ?_
  · kernel_rfl
  refine oW_someI ?_
  rw [bne_self_eq_false]
  refine kOut ((?_ : KT _ ?_) (kF ?_ ?_))
  rotate_left 2
  · intro h0
    repeat1' ((try rw [exL_x] at h0); simp [xthen_next, xthen_ret, xthen_brk, selB_t, selB_f, puts_nil, puts_cons, exL_e, exS_ifK, storesOk, listAt, tupAt, v1, v2, v3, v4, v5, v6, v7, v8, v9, v10, g1, g2, g3, g4, -exS_if, -Int.natCast_pos, -Int.ofNat_lt, -Int.pred_toNat, -Int.toNat_sub', -Option.some.injEq, -Int.natCast_eq_zero, -Bool.not_not, -Int.zero_add, -Int.add_zero, -Int.zero_sub, -Int.sub_neg, -Int.neg_neg, -Int.sub_zero, -Option.map_bind, -bne_self_eq_false, -List.set_append_right, -List.length_replicate, -List.flatten_replicate_singleton, -Nat.one_mul, -Nat.zero_add, -Option.map_map, -List.getElem?_map, -oX_some, -oW_some, -exL_nil, -decide_eq_true_eq, -Bool.or_eq_true, -Bool.and_eq_true, -bne_iff_ne, -beq_iff_eq, -ne_eq, -List.append_assoc, -ge_iff_le, -Int.ofNat_le, -List.length_append, -List.length_map, -List.map_map, -get_len0, -get_lenS, -ints_map, -strs_map, -strs_snoc] at h0)
    exact type_of% h0
  · exact rfl
  intro zK
  clear zK
  refine kk ?_ ?_
  · kernel_rfl
  try rw [exL_cons, exS_for]
  refine it_range1 (by rw [g2]; rfl) rfl ?_
  simp [v5, g1, get_app hl4, sps, hPlen, scn]
  refine for_rangeK (n := cnt - 1) (fun i l X => ManyJ X4 rp t (-(rows.length : Int)) (caA ps tally (-(rows.length : Int)) i) l X) ?_ ?_ _ _ ?_ ?_
  · rintro i l X hi ⟨rc, ra, e1, e2, e3, e4, e5, hp, hc, ha, hn, d1, d2⟩
    refine ⟨rfl, _, bindT_name v8, fun P' hN hR => ?_⟩
    clear hR
    have hlen := caA_len ps tally (-(rows.length : Int)) i
    have hstep : caA ps tally (-(rows.length : Int)) (i + 1) = caS ps tally (-(rows.length : Int)) i (caA ps tally (-(rows.length : Int)) i) := rfl
    replace hN : ∀ l' X', ManyJ X4 rp t (-(rows.length : Int)) (caS ps tally (-(rows.length : Int)) i (caA ps tally (-(rows.length : Int)) i)) l' X' → P' .next l' X' := hN
    clear hstep
    generalize caA ps tally (-(rows.length : Int)) i = s at d1 d2 hlen hN
    have f1 := pre_at hp hl4
    have f2 := pre_at hp ht4
    have n1 := get_lt hl4
    have n2 := get_lt ht4
    have q1 : (ps.map AV.int)[i]? = some (.int (ps.getD i 0)) := by simp [show i < ps.length by omega]
    have q2 : (ps.map AV.int)[i + 1]? = some (.int (ps.getD (i + 1) 0)) := by simp [show i + 1 < ps.length by omega]
    have si : small (i : Int) = true := small_lit (by omega) (by omega)
    have si1 : small ((i : Int) + 1) = true := small_lit (by omega) (by omega)
    have sc : sizeOk (s.c.length + 1) = true := size_le (by omega)
    have sa : sizeOk (s.a.length + 1) = true := size_le (by omega)
    have ti : ((i : Int) + 1).toNat = i + 1 := by omega
    have ni : (0 : Int) ≤ (i : Int) + 1 := by omega
    have hcas : caS ps tally (-(rows.length : Int)) i s = ⟨putD (ps.getD i 0) ((s.c.lookup (ps.getD i 0)).getD 0 + (tally.lookup (-(rows.length : Int) + i)).getD 0) s.c, putD (ps.getD i 0) (ps.getD (i + 1) 0) s.a⟩ := rfl
    rw [hcas] at hN
    clear hcas
    generalize ps.getD i 0 = a0 at q1 hN
    generalize ps.getD (i + 1) 0 = b0 at q2 hN
    rw [puts_eq (l := l) [("paints", _), ("tally", _), ("lowest", _), ("cells", _), ("after", _)] ⟨e1, e2, e3, e4, e5, trivial⟩]
    rw [Int.zero_add]
    repeat
      first
      | refine kOut ((?_ : KT _ ?_) (kF ?_ ?_))
        rotate_left 2
        · intro h0
          repeat1' ((try rw [exL_x] at h0); simp [xthen_next, xthen_ret, xthen_brk, selB_t, selB_f, puts_nil, puts_cons, exL_e, exS_ifK, storesOk, listAt, tupAt, v1, v2, v3, v4, v5, v6, v7, v8, v9, v10, g1, g2, g3, g4, -exS_if, -Int.natCast_pos, -Int.ofNat_lt, -Int.pred_toNat, -Int.toNat_sub', -Option.some.injEq, -Int.natCast_eq_zero, -Bool.not_not, -Int.zero_add, -Int.add_zero, -Int.zero_sub, -Int.sub_neg, -Int.neg_neg, -Int.sub_zero, -Option.map_bind, -bne_self_eq_false, -List.set_append_right, -List.length_replicate, -List.flatten_replicate_singleton, -Nat.one_mul, -Nat.zero_add, -Option.map_map, -List.getElem?_map, -oX_some, -oW_some, -exL_nil, -decide_eq_true_eq, -Bool.or_eq_true, -Bool.and_eq_true, -bne_iff_ne, -beq_iff_eq, -ne_eq, -List.append_assoc, -ge_iff_le, -Int.ofNat_le, -List.length_append, -List.length_map, -List.map_map, -get_len0, -get_lenS, -ints_map, -strs_map, -strs_snoc] at h0)
          exact type_of% h0
        · exact rfl
        intro zK
        clear zK
        refine kk ?_ ?_
        · kernel_rfl
      | simp only [d1, d2, f1, f2, q1, q2, si, si1, ti, ni, sc, sa, bi_len_s, bne_self_eq_false, Bool.false_eq_true, if_false, decide_true, assignO_list, lenO_list, lenO_tup, getO_list, getO_tup, List.length_map, Bool.true_or, Bool.or_true, Bool.and_self, Bool.true_and, Bool.and_true, eq_self, if_true]
    have d3 : (X.set rc (AO.dict (putD a0 ((s.c.lookup a0).getD 0 + (tally.lookup (-(rows.length : Int) + i)).getD 0) s.c)))[rc]? = some (.dict (putD a0 ((s.c.lookup a0).getD 0 + (tally.lookup (-(rows.length : Int) + i)).getD 0) s.c)) := set_get d1
    have d4 : (X.set rc (AO.dict (putD a0 ((s.c.lookup a0).getD 0 + (tally.lookup (-(rows.length : Int) + i)).getD 0) s.c)))[ra]? = some (.dict s.a) := by rw [List.getElem?_set_ne hn]; exact d2
    have hp' := pre_set (o := AO.dict (putD a0 ((s.c.lookup a0).getD 0 + (tally.lookup (-(rows.length : Int) + i)).getD 0) s.c)) hp hc
    generalize X.set rc (AO.dict (putD a0 ((s.c.lookup a0).getD 0 + (tally.lookup (-(rows.length : Int) + i)).getD 0) s.c)) = X5 at d3 d4 hp' ⊢
    have f3 := pre_at hp' hl4
    repeat
      first
      | refine kOut ((?_ : KT _ ?_) (kF ?_ ?_))
        rotate_left 2
        · intro h0
          repeat1' ((try rw [exL_x] at h0); simp [xthen_next, xthen_ret, xthen_brk, selB_t, selB_f, puts_nil, puts_cons, exL_e, exS_ifK, storesOk, listAt, tupAt, v1, v2, v3, v4, v5, v6, v7, v8, v9, v10, g1, g2, g3, g4, -exS_if, -Int.natCast_pos, -Int.ofNat_lt, -Int.pred_toNat, -Int.toNat_sub', -Option.some.injEq, -Int.natCast_eq_zero, -Bool.not_not, -Int.zero_add, -Int.add_zero, -Int.zero_sub, -Int.sub_neg, -Int.neg_neg, -Int.sub_zero, -Option.map_bind, -bne_self_eq_false, -List.set_append_right, -List.length_replicate, -List.flatten_replicate_singleton, -Nat.one_mul, -Nat.zero_add, -Option.map_map, -List.getElem?_map, -oX_some, -oW_some, -exL_nil, -decide_eq_true_eq, -Bool.or_eq_true, -Bool.and_eq_true, -bne_iff_ne, -beq_iff_eq, -ne_eq, -List.append_assoc, -ge_iff_le, -Int.ofNat_le, -List.length_append, -List.length_map, -List.map_map, -get_len0, -get_lenS, -ints_map, -strs_map, -strs_snoc] at h0)
          exact type_of% h0
        · exact rfl
        intro zK
        clear zK
        refine kk ?_ ?_
        · kernel_rfl
      | simp only [d3, d4, f3, q1, q2, si, si1, ti, ni, sc, sa, bi_len_s, bne_self_eq_false, Bool.false_eq_true, if_false, decide_true, assignO_list, lenO_list, lenO_tup, getO_list, getO_tup, List.length_map, Bool.true_or, Bool.or_true, Bool.and_self, Bool.true_and, Bool.and_true, eq_self, if_true]
    exact ox_nil (hN _ _ (manyJ_of rc ra ⟨by kernel_rfl, by kernel_rfl, by kernel_rfl, by kernel_rfl, by kernel_rfl, pre_set hp' ha, hc, ha, hn, by rw [List.getElem?_set_ne (Ne.symm hn)]; exact d3, set_get d4⟩))
  · rintro l X ⟨rc, ra, e1, e2, e3, e4, e5, hp, hc, ha, hn, d1, d2⟩
    refine ⟨rfl, ?_⟩
    dsimp only
    rw [puts_eq (l := l) [("paints", _), ("tally", _), ("lowest", _), ("cells", _), ("after", _)] ⟨e1, e2, e3, e4, e5, trivial⟩]
    have f1 := pre_at hp hl4
    have q1 : (ps.map AV.int)[rows.length]? = some (.int (ps.getD rows.length 0)) := by simp [show rows.length < ps.length by omega]
    have hidx : (0 - -(rows.length : Int)).toNat = rows.length := by omega
    unfold manyF at hm
    rw [hPlen, hidx] at hm
    dsimp only at hm
    generalize caA ps tally (-(rows.length : Int)) (cnt - 1) = s at hm d1 d2
    generalize ps.getD rows.length 0 = a0 at hm q1
    have srl : small (rows.length : Int) = true := small_lit (by omega) (by omega)
    cases hv : s.c.lookup a0 with
    | none => rw [hv] at hm; cases hm
    | some w =>
      rw [hv] at hm
      dsimp only at hm
      cases ha0 : small0 a0 with
      | false => rw [ha0] at hm; cases hm
      | true =>
        rw [ha0, if_pos rfl] at hm
        replace ha0 := small_of0 ha0
        repeat
          first
          | refine kOut ((?_ : KT _ ?_) (kF ?_ ?_))
            rotate_left 2
            · intro h0
              repeat1' ((try rw [exL_x] at h0); simp [xthen_next, xthen_ret, xthen_brk, selB_t, selB_f, puts_nil, puts_cons, exL_e, exS_ifK, storesOk, listAt, tupAt, v1, v2, v3, v4, v5, v6, v7, v8, v9, v10, g1, g2, g3, g4, -exS_if, -Int.natCast_pos, -Int.ofNat_lt, -Int.pred_toNat, -Int.toNat_sub', -Option.some.injEq, -Int.natCast_eq_zero, -Bool.not_not, -Int.zero_add, -Int.add_zero, -Int.zero_sub, -Int.sub_neg, -Int.neg_neg, -Int.sub_zero, -Option.map_bind, -bne_self_eq_false, -List.set_append_right, -List.length_replicate, -List.flatten_replicate_singleton, -Nat.one_mul, -Nat.zero_add, -Option.map_map, -List.getElem?_map, -oX_some, -oW_some, -exL_nil, -decide_eq_true_eq, -Bool.or_eq_true, -Bool.and_eq_true, -bne_iff_ne, -beq_iff_eq, -ne_eq, -List.append_assoc, -ge_iff_le, -Int.ofNat_le, -List.length_append, -List.length_map, -List.map_map, -get_len0, -get_lenS, -ints_map, -strs_map, -strs_snoc] at h0)
              exact type_of% h0
            · exact rfl
            intro zK
            clear zK
            refine kk ?_ ?_
            · kernel_rfl
          | simp only [show (0 : Int) - -(rows.length : Int) = (rows.length : Int) from by omega, f1, d1, d2, q1, srl, hv, ha0, bi_len_s, bne_self_eq_false, Bool.false_eq_true, if_false, decide_true, assignO_list, lenO_list, lenO_tup, getO_list, getO_tup, List.length_map, Bool.true_or, Bool.or_true, Bool.and_self, Bool.true_and, Bool.and_true, eq_self, if_true]
        rw [exL_cons, exS_for]
        refine it_dict rfl rfl (k := rc) (H' := X) (x := s.c) (by kernel_rfl) d1 ?_
        refine for_K (ManyL s m rc ra X) ?_ ?_ _ _ _ ⟨s.c, w, rfl, by kernel_rfl, by kernel_rfl, by kernel_rfl, rfl, hm⟩
        · rintro v vs l X' ⟨rest, m0, hvs, z4, z5, z6, rfl, hm'⟩
          cases rest with
          | nil => cases hvs
          | cons p rest =>
            obtain ⟨p1, p2⟩ := p
            cases hvs
            refine ⟨by simp [d1], _, bindT_name v10, fun P' hN hB hR => ?_⟩
            clear hB hR
            rw [puts_eq (l := l) [("cells", _), ("after", _), ("many", _)] ⟨z4, z5, z6, trivial⟩]
            unfold manyL at hm'
            cases hc1 : s.c.lookup p1 with
            | none => rw [hc1] at hm'; cases hm'
            | some y =>
              cases hc2 : s.a.lookup p1 with
              | none => rw [hc1, hc2] at hm'; cases hm'
              | some u =>
                rw [hc1, hc2] at hm'
                dsimp only at hm'
                cases hsp : small0 p1 with
                | false => rw [hsp] at hm'; cases hm'
                | true =>
                  cases hsy : small0 y with
                  | false => rw [hsp, hsy] at hm'; cases hm'
                  | true =>
                    rw [hsp, hsy, Bool.and_self, if_pos rfl] at hm'
                    replace hsp := small_of0 hsp
                    replace hsy := small_of0 hsy
                    repeat
                      first
                      | refine kOut ((?_ : KT _ ?_) (kF ?_ ?_))
                        rotate_left 2
                        · intro h0
                          repeat1' ((try rw [exL_x] at h0); simp [xthen_next, xthen_ret, xthen_brk, selB_t, selB_f, puts_nil, puts_cons, exL_e, exS_ifK, storesOk, listAt, tupAt, v1, v2, v3, v4, v5, v6, v7, v8, v9, v10, g1, g2, g3, g4, -exS_if, -Int.natCast_pos, -Int.ofNat_lt, -Int.pred_toNat, -Int.toNat_sub', -Option.some.injEq, -Int.natCast_eq_zero, -Bool.not_not, -Int.zero_add, -Int.add_zero, -Int.zero_sub, -Int.sub_neg, -Int.neg_neg, -Int.sub_zero, -Option.map_bind, -bne_self_eq_false, -List.set_append_right, -List.length_replicate, -List.flatten_replicate_singleton, -Nat.one_mul, -Nat.zero_add, -Option.map_map, -List.getElem?_map, -oX_some, -oW_some, -exL_nil, -decide_eq_true_eq, -Bool.or_eq_true, -Bool.and_eq_true, -bne_iff_ne, -beq_iff_eq, -ne_eq, -List.append_assoc, -ge_iff_le, -Int.ofNat_le, -List.length_append, -List.length_map, -List.map_map, -get_len0, -get_lenS, -ints_map, -strs_map, -strs_snoc] at h0)
                          exact type_of% h0
                        · exact rfl
                        intro zK
                        clear zK
                        refine kk ?_ ?_
                        · kernel_rfl
                      | simp only [d1, d2, hc1, hc2, hsp, hsy, bi_len_s, bne_self_eq_false, Bool.false_eq_true, if_false, decide_true, assignO_list, lenO_list, lenO_tup, getO_list, getO_tup, List.length_map, Bool.true_or, Bool.or_true, Bool.and_self, Bool.true_and, Bool.and_true, eq_self, if_true]
                    exact ox_nil (hN _ _ ⟨rest, _, rfl, by kernel_rfl, by kernel_rfl, by kernel_rfl, rfl, hm'⟩)
        · rintro l X' ⟨rest, m0, hvs, z4, z5, z6, rfl, hm'⟩
          refine ⟨by simp [d1], ?_⟩
          cases rest with
          | cons _ _ => cases hvs
          | nil =>
            unfold manyL at hm'
            injection hm' with hm'
            dsimp only
            rw [puts_eq (l := l) [("many", _)] ⟨z6, trivial⟩]
            refine kOut ((?_ : KT _ ?_) (kF ?_ ?_))
            rotate_left 2
            · intro h0
              repeat1' ((try rw [exL_x] at h0); simp [xthen_next, xthen_ret, xthen_brk, selB_t, selB_f, puts_nil, puts_cons, exL_e, exS_ifK, storesOk, listAt, tupAt, v1, v2, v3, v4, v5, v6, v7, v8, v9, v10, g1, g2, g3, g4, -exS_if, -Int.natCast_pos, -Int.ofNat_lt, -Int.pred_toNat, -Int.toNat_sub', -Option.some.injEq, -Int.natCast_eq_zero, -Bool.not_not, -Int.zero_add, -Int.add_zero, -Int.zero_sub, -Int.sub_neg, -Int.neg_neg, -Int.sub_zero, -Option.map_bind, -bne_self_eq_false, -List.set_append_right, -List.length_replicate, -List.flatten_replicate_singleton, -Nat.one_mul, -Nat.zero_add, -Option.map_map, -List.getElem?_map, -oX_some, -oW_some, -exL_nil, -decide_eq_true_eq, -Bool.or_eq_true, -Bool.and_eq_true, -bne_iff_ne, -beq_iff_eq, -ne_eq, -List.append_assoc, -ge_iff_le, -Int.ofNat_le, -List.length_append, -List.length_map, -List.map_map, -get_len0, -get_lenS, -ints_map, -strs_map, -strs_snoc] at h0)
              exact type_of% h0
            · exact rfl
            intro zK
            clear zK
            refine kk ?_ ?_
            · kernel_rfl
            exact ox_ret (hRet _ _ _ ⟨hpx4.trans hp, by rw [hm']⟩)
  · exact manyJ_of X4.length (X4.length + 1) ⟨by simp, by simp, by simp, by simp, by simp, pre_app List.prefix_rfl, by omega, by omega, by omega, by simp [caA], by simp [caA]⟩
  · simp
end Mine.L
end
section
/-! Contracts: Whitespace. -/
namespace Mine.L
open PySem
set_option maxRecDepth 100000
set_option linter.unusedSimpArgs false

noncomputable def mN (f : Str) : Names := match defOf f (classBody topBody) with | some (_, _, N) => N | none => []
theorem meth_ev {b : Bool} {ns : List Int} {n : Nat} {f : Str} {as : List AV} {H : AH} (h : isMeth f = true) : (ev b ns (n + 1)).meth f as H = callBy (ev b ns n) (classBody topBody) f as H := by
  show (if isMeth f = true then _ else _) = _
  rw [if_pos h]
structure WS where
  count : List Int
  b : Nat
  n : Nat
  nt : Nat
noncomputable def growF (w : WS) : List Int := if w.count.length ≤ w.b then w.count ++ List.replicate (w.b - w.count.length + 1) 0 else w.count
noncomputable def bumpF (w : WS) : List Int := (growF w).set w.b ((growF w).getD w.b 0 + 1)
noncomputable def wsG : List Nat → WS → WS
  | [], w => w
  | c :: r, w => if c = 32 then wsG r ⟨w.count, w.b + 1, w.n + 1, w.nt⟩ else if c = 9 then wsG r ⟨bumpF w, 0, w.n + 1, w.nt + 1⟩ else w
noncomputable def wsF (s : Str) : WS := wsG s.cps.toList ⟨[], 0, 0, 0⟩
theorem exS_swap {E : Evs} {N : Names} {l : AL} {H : AH} {x y f f' : Str} {xp yp q ap ap' ep p : Pos} {o o' : Expr} {k k' : Nat} (h : N.lookup x = some .local ∧ N.lookup y = some .local ∧ y ≠ x ∧ yp.line = xp.line ∧ isVar N x = true ∧ isVar N y = true) {r : Nat} {H₁ : AH} {a c : AV}
    (he : E.e (.Tuple [.Attribute o f ap, .Attribute o' f' ap'] k' ep) N l H = some (.ref r, H₁)) (hr : H₁[r]? = some (.tup [a, c])) :
    exS E (.Assign [.Tuple [.Name x xp, .Name y yp] k q] (.Tuple [.Attribute o f ap, .Attribute o' f' ap'] k' ep) p) N l H = some (.next, put (put l y c) x a, H₁) := by
  show (if N.lookup x = some .local ∧ N.lookup y = some .local ∧ y ≠ x ∧ decide (yp.line = xp.line) = true ∧ isVar N x = true ∧ isVar N y = true then obind (E.e (.Tuple [.Attribute o f ap, .Attribute o' f' ap'] k' ep) N l H) (swapV x y l) else none) = _
  rw [if_pos ⟨h.1, h.2.1, h.2.2.1, decide_eq_true h.2.2.2.1, h.2.2.2.2.1, h.2.2.2.2.2⟩, he]
  show (tupAt H₁ r).bind _ = _
  rw [tupAt_of hr]
  rfl
theorem init_vars : (isVar (mN "__init__") "self" = true ∧ isVar (mN "__init__") "ws" = true ∧ isVar (mN "__init__") "S" = true ∧ isVar (mN "__init__") "T" = true ∧ isVar (mN "__init__") "count" = true ∧ isVar (mN "__init__") "b" = true ∧ isVar (mN "__init__") "n" = true ∧ isVar (mN "__init__") "nt" = true ∧ isVar (mN "__init__") "ch" = true) ∧
    (isGlob (mN "__init__") "len" = true ∧ isGlob (mN "__init__") "tuple" = true ∧ isGlob (mN "__init__") "Whitespace" = true ∧ isVar (mN "__init__") "Whitespace" = false) ∧ (isField "raw" = true ∧ isField "n" = true ∧ isField "nt" = true ∧ isField "norm" = true ∧ isField "is_simple" = true) := by decide +kernel
structure WSI (d : Nat) (s : Str) (Y : AH) (cs : List Nat) (w : WS) (rc : Nat) (k : Nat) (l : AL) (X : AH) : Prop where
  e1 : l "self" = some (.ref (d + 1))
  e2 : l "S" = some (.str " ")
  e3 : l "T" = some (.str "\t")
  e4 : l "count" = some (.ref rc)
  e5 : l "b" = some (.int w.b)
  e6 : l "n" = some (.int w.n)
  e7 : l "nt" = some (.int w.nt)
  hp : Y <+: X
  hr : Y.length ≤ rc
  hc : X[rc]? = some (.list (w.count.map AV.int))
  hw : wsG cs w = wsF s
  hk : w.count.length ≤ k
  hk2 : w.b ≤ k
  hk3 : k + cs.length ≤ 1000
noncomputable def WSJ (d : Nat) (s : Str) (Y : AH) (vs : List (List AV)) (l : AL) (X : AH) : Prop := ∃ cs w rc k, vs = cs.map (fun c => [AV.str ⟨#[c]⟩]) ∧ WSI d s Y cs w rc k l X
structure WSat (H : AH) (v : AV) (w : WS) : Prop where
  h : ∃ d r t c l, v = .ref r ∧ H[r]? = some (.inst d) ∧ H[d]? = some (.attrs l) ∧ List.lookup (Str.ofString "norm") l = some (.ref t) ∧ List.lookup (Str.ofString "nt") l = some (.int w.nt) ∧ H[t]? = some (.tup [.ref c, .int w.b]) ∧ H[c]? = some (.tup (w.count.map .int))
theorem init_ok {b : Bool} {ns : List Int} {n : Nat} {H : AH} {s : Str} (hz : s.length ≤ 1000) :
    oW ((ev b ns (n + 20)).meth "__init__" [.ref (H.length + 1), .str s] (H ++ [.attrs [], .inst H.length])) fun v H' => v = .none ∧ H <+: H' ∧ WSat H' (.ref (H.length + 1)) (wsF s) := by
  rw [meth_ev (by decide +kernel)]
  refine hide fun zzG zzF => ?_
  obtain ⟨⟨v1, v2, v3, v4, v5, v6, v7, v8, v9⟩, ⟨g1, g2, g3, g4⟩, f1, f2, f3, f4, f5⟩ := init_vars
  refine zzF ?_
  clear zzF zzG
  refine call_of (ps := ["self", "ws"]) (N := mN "__init__") rfl rfl (by decide +kernel) ?_
  rw [x_ev, exL_cons]
  try simp [storesOk, v1, v2, f1]
  repeat (rw [exL_cons]; simp [storesOk, v1, v2, f1])
  have hsa : setAttr "raw" (AV.str s) [] = [(Str.ofString "raw", AV.str s)] := rfl
  rw [hsa]
  have y1 : (H ++ [AO.attrs [(Str.ofString "raw", AV.str s)], AO.inst H.length])[H.length]? = some (.attrs [(Str.ofString "raw", AV.str s)]) := by simp
  have y2 : (H ++ [AO.attrs [(Str.ofString "raw", AV.str s)], AO.inst H.length])[H.length + 1]? = some (.inst H.length) := by simp
  have yp := pre_app (L := [AO.attrs [(Str.ofString "raw", AV.str s)], AO.inst H.length]) (List.prefix_rfl (l := H))
  generalize H ++ [AO.attrs [(Str.ofString "raw", AV.str s)], AO.inst H.length] = Y at y1 y2 yp
  rw [exL_cons, exS_swap (r := Y.length) (H₁ := Y ++ [.tup [.str " ", .str "\t"]]) (a := .str " ") (c := .str "\t") (by decide +kernel) (by simp [e_clsS g4 g3, e_clsT g4 g3]) (by simp)]
  try simp [storesOk, v5, v6, v7, v8]
  repeat (rw [exL_cons]; simp [storesOk, v5, v6, v7, v8])
  try rw [exL_cons]
  try simp [storesOk, v5, v6, v7, v8]
  repeat (rw [exL_cons]; simp [storesOk, v5, v6, v7, v8])
  try rw [exL_cons]
  try simp [storesOk, v5, v6, v7, v8]
  repeat (rw [exL_cons]; simp [storesOk, v5, v6, v7, v8])
  try rw [exL_cons, exS_for]
  refine it_str rfl rfl (s := s) (H' := Y ++ [.tup [.str " ", .str "\t"], .list []]) (e_attr v1 f1 (v := .ref (H.length + 1)) (by simp) (by simp [attrOf, get_app y1, get_app y2])) ?_
  refine oX_mono (P := fun f l X => f = .next ∧ WSJ H.length s Y [] l X) (for_K (WSJ H.length s Y) ?_ ?_ _ _ _ ?_) ?_
  · rintro v vs l X ⟨cs, w, rc, k, hvs, e1, e2, e3, e4, e5, e6, e7, hp, hr, hc, hw, hk, hk2, hk3⟩
    cases cs with
    | nil => cases hvs
    | cons c cs =>
      cases hvs
      refine ⟨rfl, _, bindT_name v9, fun P' hN hB hR => ?_⟩
      have hk3' : k + 1 + cs.length ≤ 1000 := by simp at hk3; omega
      rw [puts_eq (l := l) [("self", _), ("S", _), ("T", _), ("count", _), ("b", _), ("n", _), ("nt", _)] ⟨e1, e2, e3, e4, e5, e6, e7, trivial⟩]
      by_cases c1 : c = 32
      · subst c1
        have hS : (⟨#[32]⟩ : Str) = Str.ofString " " := by decide +kernel
        repeat
          first
          | refine kOut ((?_ : KT _ ?_) (kF ?_ ?_))
            rotate_left 2
            · intro h0
              repeat1' ((try rw [exL_x] at h0); simp [xthen_next, xthen_ret, xthen_brk, selB_t, selB_f, puts_nil, puts_cons, exL_e, exS_ifK, storesOk, v1, v2, v3, v4, v5, v6, v7, v8, v9, g1, listAt, -exS_if, -Int.natCast_pos, -Int.ofNat_lt, -Int.pred_toNat, -Int.toNat_sub', -Option.some.injEq, -Int.natCast_eq_zero, -Bool.not_not, -Int.zero_add, -Int.add_zero, -Int.zero_sub, -Int.sub_neg, -Int.neg_neg, -Int.sub_zero, -Option.map_bind, -bne_self_eq_false, -List.set_append_right, -List.length_replicate, -List.flatten_replicate_singleton, -Nat.one_mul, -Nat.zero_add, -Option.map_map, -List.getElem?_map, -oX_some, -oW_some, -exL_nil, -decide_eq_true_eq, -Bool.or_eq_true, -Bool.and_eq_true, -bne_iff_ne, -beq_iff_eq, -ne_eq, -List.append_assoc, -ge_iff_le, -Int.ofNat_le, -List.length_append, -List.length_map, -List.map_map, -get_len0, -get_lenS, -ints_map, -strs_map, -strs_snoc] at h0)
              exact type_of% h0
            · exact rfl
            intro zK
            clear zK
            refine kk ?_ ?_
            · kernel_rfl
          | simp only [hS, bi_len_s, bne_self_eq_false, Bool.false_eq_true, if_false, decide_true, assignO_list, lenO_list, lenO_tup, getO_list, getO_tup, List.length_map, Bool.true_or, Bool.or_true, Bool.and_self, Bool.true_and, Bool.and_true, eq_self, if_true]
        exact ox_nil (hN _ _ ⟨cs, ⟨w.count, w.b + 1, w.n + 1, w.nt⟩, rc, k + 1, rfl, by kernel_rfl, by kernel_rfl, by kernel_rfl, by kernel_rfl, by kernel_rfl, by kernel_rfl, by kernel_rfl, hp, hr, hc, hw, by simp; omega, by simp; omega, by omega⟩)
      · by_cases c2 : c = 9
        · subst c2
          have hS : (⟨#[9]⟩ : Str) = Str.ofString "\t" := by decide +kernel
          have sk : sizeOk w.count.length = true := size_le (by omega)
          have sb : small (w.b : Int) = true := small_lit (by omega) (by omega)
          by_cases hb : w.count.length ≤ w.b
          · have hg : growF w = w.count ++ List.replicate (w.b - w.count.length + 1) 0 := by unfold growF; rw [if_pos hb]
            have hbi : decide ((w.b : Int) ≥ (w.count.length : Int)) = true := decide_eq_true (by omega)
            have t1 : ((w.b : Int) - (w.count.length : Int) + 1).toNat = w.b - w.count.length + 1 := by omega
            have s1 : sizeOk (w.b - w.count.length + 1) = true := size_le (by omega)
            have s2 : small ((w.b : Int) - (w.count.length : Int) + 1) = true := small_lit (by omega) (by omega)
            have s3 : sizeOk (w.count.length + (w.b - w.count.length + 1)) = true := size_le (by omega)
            have q2 : (w.count.map AV.int ++ List.replicate (w.b - w.count.length + 1) (AV.int 0))[w.b]? = some (AV.int 0) := by
              rw [List.getElem?_append_right (by simpa using hb)]
              rw [List.getElem?_replicate, if_pos (by simp)]
            have hbm : bumpF w = (w.count ++ List.replicate (w.b - w.count.length + 1) 0).set w.b (0 + 1) := by
              unfold bumpF
              have h0 : (w.count ++ List.replicate (w.b - w.count.length + 1) (0 : Int)).getD w.b 0 = 0 := by
                rw [List.getD_eq_getElem?_getD, List.getElem?_append_right hb, List.getElem?_replicate, if_pos (by omega)]
                rfl
              rw [hg, h0]
            have b3 : w.b < w.count.length + (w.b - w.count.length + 1) := by omega
            repeat
              first
              | refine kOut ((?_ : KT _ ?_) (kF ?_ ?_))
                rotate_left 2
                · intro h0
                  repeat1' ((try rw [exL_x] at h0); simp [xthen_next, xthen_ret, xthen_brk, selB_t, selB_f, puts_nil, puts_cons, exL_e, exS_ifK, storesOk, v1, v2, v3, v4, v5, v6, v7, v8, v9, g1, listAt, -exS_if, -Int.natCast_pos, -Int.ofNat_lt, -Int.pred_toNat, -Int.toNat_sub', -Option.some.injEq, -Int.natCast_eq_zero, -Bool.not_not, -Int.zero_add, -Int.add_zero, -Int.zero_sub, -Int.sub_neg, -Int.neg_neg, -Int.sub_zero, -Option.map_bind, -bne_self_eq_false, -List.set_append_right, -List.length_replicate, -List.flatten_replicate_singleton, -Nat.one_mul, -Nat.zero_add, -Option.map_map, -List.getElem?_map, -oX_some, -oW_some, -exL_nil, -decide_eq_true_eq, -Bool.or_eq_true, -Bool.and_eq_true, -bne_iff_ne, -beq_iff_eq, -ne_eq, -List.append_assoc, -ge_iff_le, -Int.ofNat_le, -List.length_append, -List.length_map, -List.map_map, -get_len0, -get_lenS, -ints_map, -strs_map, -strs_snoc] at h0)
                  exact type_of% h0
                · exact rfl
                intro zK
                clear zK
                refine kk ?_ ?_
                · kernel_rfl
              | simp only [hS, hc, sk, sb, hbi, get_app hc, t1, s1, s2, s3, q2, b3, List.set_append_right, Nat.le_add_right, Nat.add_sub_cancel_left, List.set_cons_succ, List.set_cons_zero, List.length_replicate, get_len0, get_lenS, List.getElem?_cons_succ, List.getElem?_cons_zero, List.append_assoc, List.cons_append, List.nil_append, List.length_append, List.length_cons, List.length_nil, Nat.zero_add, Nat.one_mul, List.flatten_replicate_singleton, Int.natCast_nonneg, Int.toNat_natCast, bi_len_s, bne_self_eq_false, Bool.false_eq_true, if_false, decide_true, assignO_list, lenO_list, lenO_tup, getO_list, getO_tup, List.length_map, Bool.true_or, Bool.or_true, Bool.and_self, Bool.true_and, Bool.and_true, eq_self, if_true]
            refine ox_nil (hN _ _ ⟨cs, ⟨bumpF w, 0, w.n + 1, w.nt + 1⟩, X.length + 2, k + 1, rfl, by kernel_rfl, by kernel_rfl, by kernel_rfl, by kernel_rfl, by kernel_rfl, by kernel_rfl, by kernel_rfl, pre_app hp, ?_, ?_, hw, by rw [hbm]; simp; omega, by simp, by omega⟩)
            · have := hp.length_le
              omega
            · rw [hbm]
              simp [List.set_append, hb]
          · have hg : growF w = w.count := by unfold growF; rw [if_neg hb]
            have hb' : w.b < w.count.length := by omega
            have hbi : decide ((w.b : Int) ≥ (w.count.length : Int)) = false := decide_eq_false (by omega)
            have q1 : w.count[w.b]? = some (w.count[w.b]) := List.getElem?_eq_getElem hb'
            have hbm : bumpF w = w.count.set w.b (w.count[w.b] + 1) := by
              have : w.count.getD w.b 0 = w.count[w.b] := by rw [List.getD_eq_getElem?_getD, q1]; rfl
              unfold bumpF; rw [hg, this]
            repeat
              first
              | refine kOut ((?_ : KT _ ?_) (kF ?_ ?_))
                rotate_left 2
                · intro h0
                  repeat1' ((try rw [exL_x] at h0); simp [xthen_next, xthen_ret, xthen_brk, selB_t, selB_f, puts_nil, puts_cons, exL_e, exS_ifK, storesOk, v1, v2, v3, v4, v5, v6, v7, v8, v9, g1, listAt, -exS_if, -Int.natCast_pos, -Int.ofNat_lt, -Int.pred_toNat, -Int.toNat_sub', -Option.some.injEq, -Int.natCast_eq_zero, -Bool.not_not, -Int.zero_add, -Int.add_zero, -Int.zero_sub, -Int.sub_neg, -Int.neg_neg, -Int.sub_zero, -Option.map_bind, -bne_self_eq_false, -List.set_append_right, -List.length_replicate, -List.flatten_replicate_singleton, -Nat.one_mul, -Nat.zero_add, -Option.map_map, -List.getElem?_map, -oX_some, -oW_some, -exL_nil, -decide_eq_true_eq, -Bool.or_eq_true, -Bool.and_eq_true, -bne_iff_ne, -beq_iff_eq, -ne_eq, -List.append_assoc, -ge_iff_le, -Int.ofNat_le, -List.length_append, -List.length_map, -List.map_map, -get_len0, -get_lenS, -ints_map, -strs_map, -strs_snoc] at h0)
                  exact type_of% h0
                · exact rfl
                intro zK
                clear zK
                refine kk ?_ ?_
                · kernel_rfl
              | simp only [hS, hc, sk, sb, hbi, List.getElem?_map, q1, hb', assignO_list, Int.natCast_nonneg, Int.toNat_natCast, bi_len_s, bne_self_eq_false, Bool.false_eq_true, if_false, decide_true, assignO_list, lenO_list, lenO_tup, getO_list, getO_tup, List.length_map, Bool.true_or, Bool.or_true, Bool.and_self, Bool.true_and, Bool.and_true, eq_self, if_true]
            refine ox_nil (hN _ _ ⟨cs, ⟨bumpF w, 0, w.n + 1, w.nt + 1⟩, rc, k + 1, rfl, by kernel_rfl, by kernel_rfl, by kernel_rfl, by kernel_rfl, by kernel_rfl, by kernel_rfl, by kernel_rfl, pre_set hp hr, hr, ?_, hw, by rw [hbm]; simp; omega, by simp, by omega⟩)
            rw [set_get hc, hbm]
            simp [List.map_set]
        · have hS1 : ¬ (⟨#[c]⟩ : Str) = Str.ofString " " := by
            rw [show Str.ofString " " = ⟨#[32]⟩ by decide +kernel]
            intro h; injection h with h; simp at h; exact c1 h
          have hS2 : ¬ (⟨#[c]⟩ : Str) = Str.ofString "\t" := by
            rw [show Str.ofString "\t" = ⟨#[9]⟩ by decide +kernel]
            intro h; injection h with h; simp at h; exact c2 h
          repeat
            first
            | refine kOut ((?_ : KT _ ?_) (kF ?_ ?_))
              rotate_left 2
              · intro h0
                repeat1' ((try rw [exL_x] at h0); simp [xthen_next, xthen_ret, xthen_brk, selB_t, selB_f, puts_nil, puts_cons, exL_e, exS_ifK, storesOk, v1, v2, v3, v4, v5, v6, v7, v8, v9, g1, listAt, -exS_if, -Int.natCast_pos, -Int.ofNat_lt, -Int.pred_toNat, -Int.toNat_sub', -Option.some.injEq, -Int.natCast_eq_zero, -Bool.not_not, -Int.zero_add, -Int.add_zero, -Int.zero_sub, -Int.sub_neg, -Int.neg_neg, -Int.sub_zero, -Option.map_bind, -bne_self_eq_false, -List.set_append_right, -List.length_replicate, -List.flatten_replicate_singleton, -Nat.one_mul, -Nat.zero_add, -Option.map_map, -List.getElem?_map, -oX_some, -oW_some, -exL_nil, -decide_eq_true_eq, -Bool.or_eq_true, -Bool.and_eq_true, -bne_iff_ne, -beq_iff_eq, -ne_eq, -List.append_assoc, -ge_iff_le, -Int.ofNat_le, -List.length_append, -List.length_map, -List.map_map, -get_len0, -get_lenS, -ints_map, -strs_map, -strs_snoc] at h0)
                exact type_of% h0
              · exact rfl
              intro zK
              clear zK
              refine kk ?_ ?_
              · kernel_rfl
            | simp only [beq_eq_false_iff_ne.mpr hS1, beq_eq_false_iff_ne.mpr hS2, bi_len_s, bne_self_eq_false, Bool.false_eq_true, if_false, decide_true, assignO_list, lenO_list, lenO_tup, getO_list, getO_tup, List.length_map, Bool.true_or, Bool.or_true, Bool.and_self, Bool.true_and, Bool.and_true, eq_self, if_true]
          exact ox_brk (hB _ _ ⟨rfl, [], w, rc, k, rfl, by kernel_rfl, by kernel_rfl, by kernel_rfl, by kernel_rfl, by kernel_rfl, by kernel_rfl, by kernel_rfl, hp, hr, hc, by rw [← hw]; simp [wsG, c1, c2], hk, hk2, by simp; omega⟩)
  · rintro l X hX
    exact ⟨rfl, rfl, hX⟩
  · exact ⟨s.cps.toList, ⟨[], 0, 0, 0⟩, Y.length + 1, 0, rfl, by simp, by simp, by simp, by simp, by simp, by simp, by simp, pre_app List.prefix_rfl, by omega, by simp, rfl, by simp, by simp, by simp [Str.length] at hz ⊢; omega⟩
  · rintro f l X ⟨rfl, cs, w, rc, k, hvs, e1, e2, e3, e4, e5, e6, e7, hp, hr, hc, hw, hk, hk2, hk3⟩
    cases cs with
    | cons _ _ => cases hvs
    | nil =>
      have hw' : w = wsF s := hw
      rw [hw'] at e5 e6 e7 hc hk hk2
      generalize wsF s = w at e5 e6 e7 hc hk hk2 ⊢
      have yd := get_lt y1
      have hpx : H <+: X := yp.trans hp
      have x1 := pre_at hp y1
      have x2 := pre_at hp y2
      have nd : H.length ≠ rc := by omega
      have nd1 : H.length ≠ H.length + 1 := by omega
      have hd : H.length ≤ H.length := Nat.le_refl _
      generalize hD : H.length = d at e1 yd x1 x2 nd nd1 y1 y2 hd ⊢
      rw [← hD] at hd
      have hd' : H.length ≤ d := by omega
      have sk : sizeOk w.count.length = true := size_le (by omega)
      try simp
      repeat (rw [exL_cons]; simp)
      try rw [exL_cons]
      try simp [storesOk, v1, v7, e1, e6, f2, x2, x1]
      repeat (rw [exL_cons]; simp [storesOk, v1, v7, e1, e6, f2, x2, x1])
      have hs1 : setAttr "n" (AV.int w.n) [(Str.ofString "raw", AV.str s)] = [(Str.ofString "raw", AV.str s), (Str.ofString "n", AV.int w.n)] := by simp [setAttr]
      rw [hs1]
      have a1 := set_get (o := AO.attrs [(Str.ofString "raw", AV.str s), (Str.ofString "n", AV.int w.n)]) x1
      have a2 : (X.set d (AO.attrs [(Str.ofString "raw", AV.str s), (Str.ofString "n", AV.int w.n)]))[d + 1]? = some (.inst d) := by rw [List.getElem?_set_ne nd1]; exact x2
      have a3 : (X.set d (AO.attrs [(Str.ofString "raw", AV.str s), (Str.ofString "n", AV.int w.n)]))[rc]? = some (.list (w.count.map AV.int)) := by rw [List.getElem?_set_ne nd]; exact hc
      have a4 := pre_set (o := AO.attrs [(Str.ofString "raw", AV.str s), (Str.ofString "n", AV.int w.n)]) hpx hd'
      generalize X.set d (AO.attrs [(Str.ofString "raw", AV.str s), (Str.ofString "n", AV.int w.n)]) = X1 at a1 a2 a3 a4 ⊢
      try rw [exL_cons]
      try simp [storesOk, v1, v8, e1, e7, f3, a1, a2]
      repeat (rw [exL_cons]; simp [storesOk, v1, v8, e1, e7, f3, a1, a2])
      have hs2 : setAttr "nt" (AV.int w.nt) [(Str.ofString "raw", AV.str s), (Str.ofString "n", AV.int w.n)] = [(Str.ofString "raw", AV.str s), (Str.ofString "n", AV.int w.n), (Str.ofString "nt", AV.int w.nt)] := by simp [setAttr]
      rw [hs2]
      generalize hA2 : [(Str.ofString "raw", AV.str s), (Str.ofString "n", AV.int w.n), (Str.ofString "nt", AV.int w.nt)] = A2
      have b1 := set_get (o := AO.attrs A2) a1
      have b2 : (X1.set d (AO.attrs A2))[d + 1]? = some (.inst d) := by rw [List.getElem?_set_ne nd1]; exact a2
      have b3 : (X1.set d (AO.attrs A2))[rc]? = some (.list (w.count.map AV.int)) := by rw [List.getElem?_set_ne nd]; exact a3
      have b4 := pre_set (o := AO.attrs A2) a4 hd'
      generalize X1.set d (AO.attrs A2) = X2 at b1 b2 b3 b4 ⊢
      have hA2l : A2.length = 3 := by rw [← hA2]; rfl
      try rw [exL_cons]
      try simp [storesOk, v1, v5, v6, g2, e1, e4, e5, f4, listAt, b1, b2, b3, get_app b1, get_app b2, sk, hA2l]
      repeat (rw [exL_cons]; simp [storesOk, v1, v5, v6, g2, e1, e4, e5, f4, listAt, b1, b2, b3, get_app b1, get_app b2, sk, hA2l])
      have hs3 : setAttr "norm" (AV.ref (X2.length + 1)) A2 = A2 ++ [(Str.ofString "norm", AV.ref (X2.length + 1))] := by rw [← hA2]; simp [setAttr]
      rw [hs3]
      have c1 := get_app (G := [AO.tup (w.count.map AV.int), AO.tup [AV.ref X2.length, AV.int w.b]]) b1
      have c2 := get_app (G := [AO.tup (w.count.map AV.int), AO.tup [AV.ref X2.length, AV.int w.b]]) b2
      have c3 := get_app (G := [AO.tup (w.count.map AV.int), AO.tup [AV.ref X2.length, AV.int w.b]]) b3
      have c4 := pre_app (L := [AO.tup (w.count.map AV.int), AO.tup [AV.ref X2.length, AV.int w.b]]) b4
      have c5 : (X2 ++ [AO.tup (w.count.map AV.int), AO.tup [AV.ref X2.length, AV.int w.b]])[X2.length]? = some (.tup (w.count.map AV.int)) := by simp
      have c6 : (X2 ++ [AO.tup (w.count.map AV.int), AO.tup [AV.ref X2.length, AV.int w.b]])[X2.length + 1]? = some (.tup [AV.ref X2.length, AV.int w.b]) := by simp
      have nl := get_lt b1
      generalize X2.length = r2 at c1 c2 c3 c4 c5 c6 nl ⊢
      generalize X2 ++ [AO.tup (w.count.map AV.int), AO.tup [AV.ref r2, AV.int w.b]] = X3 at c1 c2 c3 c4 c5 c6 ⊢
      have nn1 : d ≠ r2 := by omega
      have nn2 : d ≠ r2 + 1 := by omega
      generalize hA3 : A2 ++ [(Str.ofString "norm", AV.ref (r2 + 1))] = A3
      have d1 := set_get (o := AO.attrs A3) c1
      have d2 : (X3.set d (AO.attrs A3))[d + 1]? = some (.inst d) := by rw [List.getElem?_set_ne nd1]; exact c2
      have d3 : (X3.set d (AO.attrs A3))[rc]? = some (.list (w.count.map AV.int)) := by rw [List.getElem?_set_ne nd]; exact c3
      have d4 := pre_set (o := AO.attrs A3) c4 hd'
      have d5 : (X3.set d (AO.attrs A3))[r2]? = some (.tup (w.count.map AV.int)) := by rw [List.getElem?_set_ne nn1]; exact c5
      have d6 : (X3.set d (AO.attrs A3))[r2 + 1]? = some (.tup [AV.ref r2, AV.int w.b]) := by rw [List.getElem?_set_ne nn2]; exact c6
      generalize X3.set d (AO.attrs A3) = X4 at d1 d2 d3 d4 d5 d6 ⊢
      have hA3l : A3.length = 4 := by rw [← hA3, ← hA2]; rfl
      try rw [exL_cons]
      try simp [storesOk, v1, v5, g1, e1, e4, f5, d1, d2, d3, sk, hA3l]
      repeat (rw [exL_cons]; simp [storesOk, v1, v5, g1, e1, e4, f5, d1, d2, d3, sk, hA3l])
      refine ⟨pre_set d4 hd', ⟨d, d + 1, r2 + 1, r2, setAttr "is_simple" (AV.bool (decide ((w.count.length : Int) ≤ 1))) A3, rfl, by rw [List.getElem?_set_ne nd1]; exact d2, ?_, ?_, ?_, by rw [List.getElem?_set_ne nn2]; exact d6, by rw [List.getElem?_set_ne nn1]; exact d5⟩⟩
      · rw [set_get d1]
      · rw [← hA3, ← hA2]; simp [setAttr, List.lookup_cons]
      · rw [← hA3, ← hA2]; simp [setAttr, List.lookup_cons]
end Mine.L
end
section
/-! Contracts: Whitespace's questions. -/
namespace Mine.L
open PySem
set_option maxRecDepth 100000
set_option linter.unusedSimpArgs false

theorem e_attr' {b : Bool} {ns : List Int} {n : Nat} {N : Names} {l : AL} {H : AH} {c f : Str} {p q : Pos} (h1 : isVar N c = true) (h2 : isField f = true) : (ev b ns (n + 1)).e (.Attribute (.Name c q) f p) N l H = match l c with | some v => (attrOf v f H).map (·, H) | none => none := by
  show evAttr N l c f H = _
  unfold evAttr
  rw [if_pos (by rw [h1, h2]; rfl)]
  cases l c <;> rfl
noncomputable def runF (w : WS) : Int := maxI ((w.count.length : Int) - 1) w.b
theorem run_vars : (isVar (mN "longest_run_of_spaces") "self" = true ∧ isVar (mN "longest_run_of_spaces") "count" = true ∧ isVar (mN "longest_run_of_spaces") "trailing" = true) ∧ (isGlob (mN "longest_run_of_spaces") "len" = true ∧ isGlob (mN "longest_run_of_spaces") "max" = true) ∧ isField "norm" = true ∧ isField "nt" = true := by decide +kernel
theorem run_ok {b : Bool} {ns : List Int} {n : Nat} {H : AH} {v : AV} {w : WS} (h : WSat H v w) (hz : w.count.length ≤ 2000) :
    oW ((ev b ns (n + 15)).meth "longest_run_of_spaces" [v] H) fun u H' => H' = H ∧ u = .int (runF w) := by
  rw [meth_ev (by decide +kernel)]
  refine hide fun hG hF => ?_
  obtain ⟨⟨v1, v2, v3⟩, ⟨g1, g2⟩, f1, f2⟩ := run_vars
  refine hF ?_
  clear hF hG
  refine call_of (ps := ["self"]) (N := mN "longest_run_of_spaces") rfl rfl (by decide +kernel) ?_
  refine hide fun hG hF => ?_
  obtain ⟨d, r, t, c, l, rfl, h1, h2, h3, h4, h5, h6⟩ := h
  refine hF ?_
  clear hF hG
  have a1 : attrOf (.ref r) "norm" H = some (.ref t) := by simp [attrOf, h1, h2, h3]
  have sk : sizeOk w.count.length = true := size_le (by omega)
  try simp [storesOk, v1, v2, v3, g1, g2, e_attr', f1, a1, tupAt, h5, h6, sk]
  repeat (rw [exL_cons]; simp [storesOk, v1, v2, v3, g1, g2, e_attr', f1, a1, tupAt, h5, h6, sk])
  rfl
noncomputable def ilG (w : WS) (ts : Nat) : Nat → Int
  | 0 => 0
  | m + 1 => ilG w ts m + ((ts : Int) + (m : Int)).fdiv ts * w.count.getD (ts + m) 0
noncomputable def indF (w : WS) (ts : Nat) : Int := w.b + ts * (ilG w ts (w.count.length - ts) + w.nt)
theorem ind_vars : (isVar (mN "indent_level") "self" = true ∧ isVar (mN "indent_level") "tabsize" = true ∧ isVar (mN "indent_level") "count" = true ∧ isVar (mN "indent_level") "trailing" = true ∧ isVar (mN "indent_level") "il" = true ∧ isVar (mN "indent_level") "i" = true) ∧ (isGlob (mN "indent_level") "len" = true ∧ isGlob (mN "indent_level") "range" = true) := by decide +kernel
structure IndI (H : AH) (w : WS) (ts r c : Nat) (il : Int) (l : AL) (X : AH) : Prop where
  e1 : l "self" = some (.ref r)
  e2 : l "tabsize" = some (.int ts)
  e3 : l "count" = some (.ref c)
  e4 : l "trailing" = some (.int w.b)
  e5 : l "il" = some (.int il)
  e6 : X = H
theorem ind_ok {b : Bool} {ns : List Int} {n : Nat} {H : AH} {v : AV} {w : WS} {ts : Nat} (h : WSat H v w) (hz : w.count.length ≤ 2000) (h0 : 0 < ts) (h20 : ts ≤ 2000) :
    oW ((ev b ns (n + 15)).meth "indent_level" [v, .int ts] H) fun u H' => H' = H ∧ u = .int (indF w ts) := by
  rw [meth_ev (by decide +kernel)]
  refine hide fun zzG zzF => ?_
  obtain ⟨⟨v1, v2, v3, v4, v5, v6⟩, g1, g2⟩ := ind_vars
  obtain ⟨_, _, f1, f2⟩ := run_vars
  refine zzF ?_
  clear zzF zzG
  refine call_K (ps := ["self", "tabsize"]) (N := mN "indent_level") rfl rfl (by decide +kernel) fun P hRet => ?_
  refine hide fun zzG zzF => ?_
  obtain ⟨d, r, t, c, l, rfl, h1, h2, h3, h4, h5, h6⟩ := h
  refine zzF ?_
  clear zzF zzG
  have a1 : attrOf (.ref r) "norm" H = some (.ref t) := by simp [attrOf, h1, h2, h3]
  have a2 : attrOf (.ref r) "nt" H = some (.int w.nt) := by simp [attrOf, h1, h2, h4]
  have sk : sizeOk w.count.length = true := size_le (by omega)
  have sm1 : small (ts : Int) = true := small_lit (by omega) (by omega)
  have sm2 : small (w.count.length : Int) = true := small_lit (by omega) (by omega)
  have n0 : ¬ ((ts : Int) = 0) := by omega
  have n0' : ¬ (ts = 0) := by omega
  repeat
    first
    | refine kOut ((?_ : KT _ ?_) (kF ?_ ?_))
      rotate_left 2
      · intro h0
        repeat1' ((try rw [exL_x] at h0); simp [xthen_next, xthen_ret, xthen_brk, selB_t, selB_f, puts_nil, puts_cons, exL_e, exS_ifK, exS_augK, e_attr', storesOk, listAt, tupAt, v1, v2, v3, v4, v5, v6, g1, g2, f1, f2, -exS_if, -Int.natCast_pos, -Int.ofNat_lt, -Int.pred_toNat, -Int.toNat_sub', -Option.some.injEq, -Int.natCast_eq_zero, -Bool.not_not, -Int.zero_add, -Int.add_zero, -Int.zero_sub, -Int.sub_neg, -Int.neg_neg, -Int.sub_zero, -Option.map_bind, -bne_self_eq_false, -List.set_append_right, -List.length_replicate, -List.flatten_replicate_singleton, -Nat.one_mul, -Nat.zero_add, -Option.map_map, -List.getElem?_map, -oX_some, -oW_some, -exL_nil, -decide_eq_true_eq, -Bool.or_eq_true, -Bool.and_eq_true, -bne_iff_ne, -beq_iff_eq, -ne_eq, -List.append_assoc, -ge_iff_le, -Int.ofNat_le, -List.length_append, -List.length_map, -List.map_map, -get_len0, -get_lenS, -ints_map, -strs_map, -strs_snoc] at h0)
        exact type_of% h0
      · exact rfl
      intro zK
      clear zK
      refine kk ?_ ?_
      · kernel_rfl
    | simp only [a1, h5, bi_len_s, bne_self_eq_false, Bool.false_eq_true, if_false, decide_true, assignO_list, lenO_list, lenO_tup, getO_list, getO_tup, List.length_map, Bool.true_or, Bool.or_true, Bool.and_self, Bool.true_and, Bool.and_true, eq_self, if_true]
  rw [exL_cons, exS_for]
  refine it_range2 (by rw [g2]; rfl) rfl ?_
  simp [v2, v3, g1, h6, sk, sm1, sm2]
  refine for_rangeK (n := w.count.length - ts) (fun m l X => IndI H w ts r c (ilG w ts m) l X) ?_ ?_ _ _ ⟨by simp, by simp, by simp, by simp, by simp [ilG], rfl⟩ (by omega)
  · rintro m l X hm ⟨e1, e2, e3, e4, e5, rfl⟩
    refine ⟨rfl, _, bindT_name v6, fun P' hN hR => ?_⟩
    clear hR
    rw [puts_eq (l := l) [("self", _), ("tabsize", _), ("count", _), ("trailing", _), ("il", _)] ⟨e1, e2, e3, e4, e5, trivial⟩]
    have q1 : (w.count.map AV.int)[ts + m]? = some (.int (w.count.getD (ts + m) 0)) := by simp [show ts + m < w.count.length by omega]
    have hst : ilG w ts (m + 1) = ilG w ts m + ((ts : Int) + (m : Int)).fdiv ts * w.count.getD (ts + m) 0 := rfl
    replace hN : ∀ l' X', IndI X w ts r c (ilG w ts m + ((ts : Int) + (m : Int)).fdiv ts * w.count.getD (ts + m) 0) l' X' → P' .next l' X' := hN
    clear hst
    generalize w.count.getD (ts + m) 0 = z at q1 hN
    have t1 : ((ts : Int) + (m : Int)).toNat = ts + m := by omega
    have t2 : (0 : Int) ≤ (ts : Int) + (m : Int) := by omega
    have t3 : small ((ts : Int) + (m : Int)) = true := small_lit (by omega) (by omega)
    have t4 : small (((ts : Int) + (m : Int)).fdiv ts) = true := by
      rw [Int.fdiv_eq_ediv_of_nonneg _ (by omega)]
      have e : ((ts : Int) + (m : Int)) / (ts : Int) = (((ts + m) / ts : Nat) : Int) := by simp
      rw [e]
      have := Nat.div_le_self (ts + m) ts
      generalize (ts + m) / ts = z at this ⊢
      exact small_lit (by omega) (by omega)
    repeat
      first
      | refine kOut ((?_ : KT _ ?_) (kF ?_ ?_))
        rotate_left 2
        · intro h0
          repeat1' ((try rw [exL_x] at h0); simp [xthen_next, xthen_ret, xthen_brk, selB_t, selB_f, puts_nil, puts_cons, exL_e, exS_ifK, exS_augK, e_attr', storesOk, listAt, tupAt, v1, v2, v3, v4, v5, v6, g1, g2, f1, f2, -exS_if, -Int.natCast_pos, -Int.ofNat_lt, -Int.pred_toNat, -Int.toNat_sub', -Option.some.injEq, -Int.natCast_eq_zero, -Bool.not_not, -Int.zero_add, -Int.add_zero, -Int.zero_sub, -Int.sub_neg, -Int.neg_neg, -Int.sub_zero, -Option.map_bind, -bne_self_eq_false, -List.set_append_right, -List.length_replicate, -List.flatten_replicate_singleton, -Nat.one_mul, -Nat.zero_add, -Option.map_map, -List.getElem?_map, -oX_some, -oW_some, -exL_nil, -decide_eq_true_eq, -Bool.or_eq_true, -Bool.and_eq_true, -bne_iff_ne, -beq_iff_eq, -ne_eq, -List.append_assoc, -ge_iff_le, -Int.ofNat_le, -List.length_append, -List.length_map, -List.map_map, -get_len0, -get_lenS, -ints_map, -strs_map, -strs_snoc] at h0)
          exact type_of% h0
        · exact rfl
        intro zK
        clear zK
        refine kk ?_ ?_
        · kernel_rfl
      | simp only [h6, q1, t1, t2, t3, t4, sm1, n0, show ((ts : Int) != 0) = true from bne_iff_ne.mpr n0, bi_len_s, bne_self_eq_false, Bool.false_eq_true, if_false, decide_true, assignO_list, lenO_list, lenO_tup, getO_list, getO_tup, List.length_map, Bool.true_or, Bool.or_true, Bool.and_self, Bool.true_and, Bool.and_true, eq_self, if_true]
    exact ox_nil (hN _ _ ⟨by kernel_rfl, by kernel_rfl, by kernel_rfl, by kernel_rfl, by kernel_rfl, rfl⟩)
  · rintro l X ⟨e1, e2, e3, e4, e5, rfl⟩
    refine ⟨rfl, ?_⟩
    dsimp only
    rw [puts_eq (l := l) [("self", _), ("tabsize", _), ("trailing", _), ("il", _)] ⟨e1, e2, e4, e5, trivial⟩]
    repeat
      first
      | refine kOut ((?_ : KT _ ?_) (kF ?_ ?_))
        rotate_left 2
        · intro h0
          repeat1' ((try rw [exL_x] at h0); simp [xthen_next, xthen_ret, xthen_brk, selB_t, selB_f, puts_nil, puts_cons, exL_e, exS_ifK, exS_augK, e_attr', storesOk, listAt, tupAt, v1, v2, v3, v4, v5, v6, g1, g2, f1, f2, -exS_if, -Int.natCast_pos, -Int.ofNat_lt, -Int.pred_toNat, -Int.toNat_sub', -Option.some.injEq, -Int.natCast_eq_zero, -Bool.not_not, -Int.zero_add, -Int.add_zero, -Int.zero_sub, -Int.sub_neg, -Int.neg_neg, -Int.sub_zero, -Option.map_bind, -bne_self_eq_false, -List.set_append_right, -List.length_replicate, -List.flatten_replicate_singleton, -Nat.one_mul, -Nat.zero_add, -Option.map_map, -List.getElem?_map, -oX_some, -oW_some, -exL_nil, -decide_eq_true_eq, -Bool.or_eq_true, -Bool.and_eq_true, -bne_iff_ne, -beq_iff_eq, -ne_eq, -List.append_assoc, -ge_iff_le, -Int.ofNat_le, -List.length_append, -List.length_map, -List.map_map, -get_len0, -get_lenS, -ints_map, -strs_map, -strs_snoc] at h0)
          exact type_of% h0
        · exact rfl
        intro zK
        clear zK
        refine kk ?_ ?_
        · kernel_rfl
      | simp only [a2, sm1, bi_len_s, bne_self_eq_false, Bool.false_eq_true, if_false, decide_true, assignO_list, lenO_list, lenO_tup, getO_list, getO_tup, List.length_map, Bool.true_or, Bool.or_true, Bool.and_self, Bool.true_and, Bool.and_true, eq_self, if_true]
    exact ox_ret (hRet _ _ _ ⟨rfl, rfl⟩)
end Mine.L
end
section
/-! Contracts: witnesses. -/
namespace Mine.L
open PySem
set_option maxRecDepth 100000
set_option linter.unusedSimpArgs false
set_option linter.unusedVariables false

theorem oW_eq {α : Type} {o : Option (α × AH)} {a : α} {H : AH} (h : oW o fun u H' => H' = H ∧ u = a) : o = some (a, H) := by
  obtain ⟨u, H', e, rfl, rfl⟩ := h
  exact e
abbrev Trip := Int × Int × Int
noncomputable def tripA (t : Trip) : AO := .tup [.int t.1, .int t.2.1, .int t.2.2]
noncomputable def Trips (H : AH) : List Nat → List Trip → Prop
  | [], [] => True
  | k :: r, t :: q => H[k]? = some (tripA t) ∧ Trips H r q
  | [], _ :: _ => False
  | _ :: _, [] => False
theorem trips_mono {H X : AH} (hp : ∀ (k : Nat) (t : Trip), H[k]? = some (tripA t) → X[k]? = some (tripA t)) : ∀ (r : List Nat) (q : List Trip), Trips H r q → Trips X r q
  | [], [], _ => trivial
  | k :: r, t :: q, h => ⟨hp _ _ h.1, trips_mono hp r q h.2⟩
  | [], _ :: _, h => h.elim
  | _ :: _, [], h => h.elim
theorem trips_pre {H X : AH} (hp : H <+: X) {r : List Nat} {q : List Trip} (h : Trips H r q) : Trips X r q := trips_mono (fun _ _ e => pre_at hp e) r q h
theorem trips_set {H : AH} {a : Nat} {l : List AV} {o : AO} (ha : H[a]? = some (.list l)) {r : List Nat} {q : List Trip} (h : Trips H r q) : Trips (H.set a o) r q :=
  trips_mono (fun k t e => by
    by_cases hk : a = k
    · subst hk; rw [ha] at e; cases e
    · rw [List.getElem?_set_ne hk]; exact e) r q h
theorem trips_snoc {H : AH} {k : Nat} {t : Trip} (hk : H[k]? = some (tripA t)) : ∀ (r : List Nat) (q : List Trip), Trips H r q → Trips H (r ++ [k]) (q ++ [t])
  | [], [], _ => ⟨hk, trivial⟩
  | j :: r, t :: q, h => ⟨h.1, trips_snoc hk r q h.2⟩
  | [], _ :: _, h => h.elim
  | _ :: _, [], h => h.elim
theorem trips_len {H : AH} : ∀ (r : List Nat) (q : List Trip), Trips H r q → r.length = q.length
  | [], [], _ => rfl
  | j :: r, t :: q, h => by simp [trips_len r q h.2]
  | [], _ :: _, h => h.elim
  | _ :: _, [], h => h.elim
theorem trips_eq {H : AH} : ∀ (r r' : List Nat) (q : List Trip), Trips H r q → Trips H r' q → eqs (eqV 2 H) (r.map AV.ref) (r'.map AV.ref) = some true
  | [], [], [], _, _ => rfl
  | j :: r, k :: r', t :: q, h, h' => by
    have ih := trips_eq r r' q h.2 h'.2
    have e : eqV 2 H (.ref j) (.ref k) = some true := by
      have h1 := h.1
      have h2 := h'.1
      rw [eqV_rr, eqR_tt h1 h2]
      simp [tripA, eqs]
    simp only [List.map_cons, eqs, e, ih]
    rfl
  | [], _ :: _, [], _, h => h.elim
  | _ :: _, _, [], h, _ => h.elim
  | [], _, _ :: _, h, _ => h.elim
  | _ :: _, [], _ :: _, _, h => h.elim
theorem trips_cmp {H : AH} {j k : Nat} {r r' : List Nat} {q : List Trip} (hj : H[j]? = some (.list (r.map AV.ref))) (hk : H[k]? = some (.list (r'.map AV.ref))) (h : Trips H r q) (h' : Trips H r' q) :
    cmpop .NotEq (.ref j) (.ref k) H = some false ∧ cmpop .Eq (.ref j) (.ref k) H = some true := by
  have e : eqV 3 H (.ref j) (.ref k) = some true := by
    rw [eqV_rr, eqR_ll hj hk]
    exact trips_eq r r' q h h'
  constructor
  · show neg? (eqV 3 H (.ref j) (.ref k)) = _
    rw [e]; rfl
  · show (if emptyAt H k = true then _ else eqV 3 H (.ref j) (.ref k)) = _
    rw [if_neg (by unfold emptyAt dictAt; rw [hk]; exact Bool.false_ne_true)]
    exact e
noncomputable def witG (w w' : WS) : Nat → List Trip
  | 0 => []
  | m + 1 => witG w w' m ++ if indF w (m + 1) ≠ indF w' (m + 1) then [(((m : Int) + 1), indF w (m + 1), indF w' (m + 1))] else []
noncomputable def witN (w w' : WS) : Nat := (maxI (runF w) (runF w') + 1).toNat
noncomputable def witF (w w' : WS) : List Trip := witG w w' (witN w w')
theorem witG_len (w w' : WS) : ∀ m, (witG w w' m).length ≤ m
  | 0 => Nat.le_refl _
  | m + 1 => by
    have := witG_len w w' m
    unfold witG
    rw [List.length_append]
    split <;> simp <;> omega
theorem wit_vars : (isVar (mN "not_equal_witness") "self" = true ∧ isVar (mN "not_equal_witness") "other" = true ∧ isVar (mN "not_equal_witness") "n" = true ∧ isVar (mN "not_equal_witness") "a" = true ∧ isVar (mN "not_equal_witness") "ts" = true) ∧ (isGlob (mN "not_equal_witness") "max" = true ∧ isGlob (mN "not_equal_witness") "range" = true) := by decide +kernel
theorem wsat_ref {H : AH} {v : AV} {w : WS} (h : WSat H v w) : ∃ d r l, v = .ref r ∧ H[r]? = some (.inst d) ∧ H[d]? = some (.attrs l) := by
  obtain ⟨d, r, t, c, l, e, h1, h2, _⟩ := h
  exact ⟨d, r, l, e, h1, h2⟩
theorem wsat_pre {H X : AH} {v : AV} {w : WS} (hp : H <+: X) (h : WSat H v w) : WSat X v w := by
  obtain ⟨d, r, t, c, l, e, h1, h2, h3, h4, h5, h6⟩ := h
  exact ⟨d, r, t, c, l, e, pre_at hp h1, pre_at hp h2, h3, h4, pre_at hp h5, pre_at hp h6⟩
theorem runF_bd {w : WS} (hz : w.count.length ≤ 1000) (hb : w.b ≤ 1000) : 0 ≤ runF w ∧ runF w ≤ 1000 := by
  unfold runF maxI
  split <;> omega
structure WitI (H : AH) (r r' ra : Nat) (ks : List Nat) (q : List Trip) (l : AL) (X : AH) : Prop where
  e1 : l "self" = some (.ref r)
  e2 : l "other" = some (.ref r')
  e3 : l "a" = some (.ref ra)
  hp : H <+: X
  hr : H.length ≤ ra
  e4 : X[ra]? = some (.list (ks.map AV.ref))
  tr : Trips X ks q
noncomputable def WitJ (H : AH) (r r' : Nat) (q : List Trip) (l : AL) (X : AH) : Prop := ∃ ra ks, WitI H r r' ra ks q l X
theorem witJ_of {H : AH} {r r' : Nat} {q : List Trip} {l : AL} {X : AH} (ra : Nat) (ks : List Nat) (h : WitI H r r' ra ks q l X) : WitJ H r r' q l X := ⟨ra, ks, h⟩
theorem wit_ok {b : Bool} {ns : List Int} {n : Nat} {H : AH} {v v' : AV} {w w' : WS} (h : WSat H v w) (h' : WSat H v' w') (hz : w.count.length ≤ 1000) (hz' : w'.count.length ≤ 1000) (hb : w.b ≤ 1000) (hb' : w'.b ≤ 1000) :
    oW ((ev b ns (n + 30)).meth "not_equal_witness" [v, v'] H) fun u H' => H <+: H' ∧ ∃ r ks, u = .ref r ∧ H'[r]? = some (.list (ks.map AV.ref)) ∧ Trips H' ks (witF w w') := by
  rw [meth_ev (by decide +kernel)]
  refine hide fun zzG zzF => ?_
  obtain ⟨⟨v1, v2, v3, v4, v5⟩, g1, g2⟩ := wit_vars
  refine zzF ?_
  clear zzF zzG
  refine call_K (ps := ["self", "other"]) (N := mN "not_equal_witness") rfl rfl (by decide +kernel) fun P hRet => ?_
  have r1 := fun m => oW_eq (run_ok (b := b) (ns := ns) (n := m) h (by omega))
  have r2 := fun m => oW_eq (run_ok (b := b) (ns := ns) (n := m) h' (by omega))
  obtain ⟨d, r, l, rfl, h1, h2⟩ := wsat_ref h
  obtain ⟨d', r', l', rfl, h1', h2'⟩ := wsat_ref h'
  have ia : isAttrs H d = true := by simp [isAttrs, h2]
  have ia' : isAttrs H d' = true := by simp [isAttrs, h2']
  have so := show sameO H (some (.inst d)) (some (.inst d)) = true from by simp [ia]
  have so' := show sameO H (some (.inst d')) (some (.inst d')) = true from by simp [ia']
  repeat
    first
    | refine kOut ((?_ : KT _ ?_) (kF ?_ ?_))
      rotate_left 2
      · intro h0
        repeat1' ((try rw [exL_x] at h0); simp [xthen_next, xthen_ret, xthen_brk, selB_t, selB_f, puts_nil, puts_cons, exL_e, exS_ifK, -sameO_ii, storesOk, listAt, tupAt, v1, v2, v3, v4, v5, g1, g2, -exS_if, -Int.natCast_pos, -Int.ofNat_lt, -Int.pred_toNat, -Int.toNat_sub', -Option.some.injEq, -Int.natCast_eq_zero, -Bool.not_not, -Int.zero_add, -Int.add_zero, -Int.zero_sub, -Int.sub_neg, -Int.neg_neg, -Int.sub_zero, -Option.map_bind, -bne_self_eq_false, -List.set_append_right, -List.length_replicate, -List.flatten_replicate_singleton, -Nat.one_mul, -Nat.zero_add, -Option.map_map, -List.getElem?_map, -oX_some, -oW_some, -exL_nil, -decide_eq_true_eq, -Bool.or_eq_true, -Bool.and_eq_true, -bne_iff_ne, -beq_iff_eq, -ne_eq, -List.append_assoc, -ge_iff_le, -Int.ofNat_le, -List.length_append, -List.length_map, -List.map_map, -get_len0, -get_lenS, -ints_map, -strs_map, -strs_snoc] at h0)
        exact type_of% h0
      · exact rfl
      intro zK
      clear zK
      refine kk ?_ ?_
      · kernel_rfl
    | simp only [so, so', h1, h1', r1, r2, bi_len_s, bne_self_eq_false, Bool.false_eq_true, if_false, decide_true, assignO_list, lenO_list, lenO_tup, getO_list, getO_tup, List.length_map, Bool.true_or, Bool.or_true, Bool.and_self, Bool.true_and, Bool.and_true, eq_self, if_true]
  have bd := runF_bd hz hb
  have bd' := runF_bd hz' hb'
  have hN : maxI (runF w) (runF w') + 1 = (witN w w' : Int) := by
    unfold witN maxI
    split <;> omega
  have hN2 : witN w w' ≤ 1001 := by
    unfold witN maxI
    split <;> omega
  rw [hN]
  clear hN
  have hF : witF w w' = witG w w' (witN w w') := rfl
  rw [hF] at hRet
  clear hF
  generalize witN w w' = cnt at hN2 hRet ⊢
  have s1 : small 1 = true := small_lit (by decide) (by decide)
  have s2 : small ((cnt : Int) + 1) = true := small_lit (by omega) (by omega)
  rw [exL_cons, exS_for]
  refine it_range2 (by rw [g2]; rfl) rfl ?_
  simp [v3, s1, s2]
  refine for_rangeK (n := cnt) (fun m l X => WitJ H r r' (witG w w' m) l X) ?_ ?_ _ _ ?_ (by simp)
  · rintro m l X hm ⟨ra, ks, e1, e2, e3, hp, hr, e4, tr⟩
    refine ⟨rfl, _, bindT_name v5, fun P' hN hR => ?_⟩
    clear hR
    rw [puts_eq (l := l) [("self", _), ("other", _), ("a", _)] ⟨e1, e2, e3, trivial⟩]
    have i1 := fun m' => oW_eq (ind_ok (b := b) (ns := ns) (n := m') (ts := m + 1) (wsat_pre hp h) (by omega) (by omega) (by omega))
    have i2 := fun m' => oW_eq (ind_ok (b := b) (ns := ns) (n := m') (ts := m + 1) (wsat_pre hp h') (by omega) (by omega) (by omega))
    have j1 := pre_at hp h1
    have j2 := pre_at hp h2
    have j3 := pre_at hp h1'
    have j4 := pre_at hp h2'
    have hst : witG w w' (m + 1) = witG w w' m ++ if indF w (m + 1) ≠ indF w' (m + 1) then [(((m : Int) + 1), indF w (m + 1), indF w' (m + 1))] else [] := rfl
    replace hN : ∀ l' X', WitJ H r r' (witG w w' m ++ if indF w (m + 1) ≠ indF w' (m + 1) then [(((m : Int) + 1), indF w (m + 1), indF w' (m + 1))] else []) l' X' → P' .next l' X' := hN
    clear hst
    have hl := witG_len w w' m
    generalize witG w w' m = q at tr hl hN
    have hkl := trips_len _ _ tr
    generalize indF w (m + 1) = x1 at i1 hN
    generalize indF w' (m + 1) = x2 at i2 hN
    have hc : (1 : Int) + (m : Int) = ((m + 1 : Nat) : Int) := by omega
    rw [hc]
    generalize hm1 : ((m + 1 : Nat) : Int) = mi at i1 i2 ⊢
    have hm2 : (m : Int) + 1 = mi := by omega
    rw [hm2] at hN
    have sk : sizeOk (ks.length + 1) = true := size_le (by omega)
    have ja : isAttrs X d = true := by simp [isAttrs, j2]
    have ja' : isAttrs X d' = true := by simp [isAttrs, j4]
    have so := show sameO X (some (.inst d)) (some (.inst d)) = true from by simp [ja]
    have so' := show sameO X (some (.inst d')) (some (.inst d')) = true from by simp [ja']
    repeat
      first
      | refine kOut ((?_ : KT _ ?_) (kF ?_ ?_))
        rotate_left 2
        · intro h0
          repeat1' ((try rw [exL_x] at h0); simp [xthen_next, xthen_ret, xthen_brk, selB_t, selB_f, puts_nil, puts_cons, exL_e, exS_ifK, -sameO_ii, storesOk, listAt, tupAt, v1, v2, v3, v4, v5, g1, g2, -exS_if, -Int.natCast_pos, -Int.ofNat_lt, -Int.pred_toNat, -Int.toNat_sub', -Option.some.injEq, -Int.natCast_eq_zero, -Bool.not_not, -Int.zero_add, -Int.add_zero, -Int.zero_sub, -Int.sub_neg, -Int.neg_neg, -Int.sub_zero, -Option.map_bind, -bne_self_eq_false, -List.set_append_right, -List.length_replicate, -List.flatten_replicate_singleton, -Nat.one_mul, -Nat.zero_add, -Option.map_map, -List.getElem?_map, -oX_some, -oW_some, -exL_nil, -decide_eq_true_eq, -Bool.or_eq_true, -Bool.and_eq_true, -bne_iff_ne, -beq_iff_eq, -ne_eq, -List.append_assoc, -ge_iff_le, -Int.ofNat_le, -List.length_append, -List.length_map, -List.map_map, -get_len0, -get_lenS, -ints_map, -strs_map, -strs_snoc] at h0)
          exact type_of% h0
        · exact rfl
        intro zK
        clear zK
        refine kk ?_ ?_
        · kernel_rfl
      | simp only [so, so', j1, j3, i1, i2, bi_len_s, bne_self_eq_false, Bool.false_eq_true, if_false, decide_true, assignO_list, lenO_list, lenO_tup, getO_list, getO_tup, List.length_map, Bool.true_or, Bool.or_true, Bool.and_self, Bool.true_and, Bool.and_true, eq_self, if_true]
    by_cases hx : x1 = x2
    · rw [show (x1 != x2) = false from by simp [hx]]
      refine kOut ((?_ : KT _ ?_) (kF ?_ ?_))
      rotate_left 2
      · intro h0
        repeat1' ((try rw [exL_x] at h0); simp [xthen_next, xthen_ret, xthen_brk, selB_t, selB_f, puts_nil, puts_cons, exL_e, exS_ifK, -sameO_ii, storesOk, listAt, tupAt, v1, v2, v3, v4, v5, g1, g2, -exS_if, -Int.natCast_pos, -Int.ofNat_lt, -Int.pred_toNat, -Int.toNat_sub', -Option.some.injEq, -Int.natCast_eq_zero, -Bool.not_not, -Int.zero_add, -Int.add_zero, -Int.zero_sub, -Int.sub_neg, -Int.neg_neg, -Int.sub_zero, -Option.map_bind, -bne_self_eq_false, -List.set_append_right, -List.length_replicate, -List.flatten_replicate_singleton, -Nat.one_mul, -Nat.zero_add, -Option.map_map, -List.getElem?_map, -oX_some, -oW_some, -exL_nil, -decide_eq_true_eq, -Bool.or_eq_true, -Bool.and_eq_true, -bne_iff_ne, -beq_iff_eq, -ne_eq, -List.append_assoc, -ge_iff_le, -Int.ofNat_le, -List.length_append, -List.length_map, -List.map_map, -get_len0, -get_lenS, -ints_map, -strs_map, -strs_snoc] at h0)
        exact type_of% h0
      · exact rfl
      intro zK
      clear zK
      refine kk ?_ ?_
      · kernel_rfl
      rw [if_neg (fun h => h hx), List.append_nil] at hN
      exact ox_nil (hN _ _ (witJ_of ra ks ⟨by kernel_rfl, by kernel_rfl, by kernel_rfl, hp, hr, e4, tr⟩))
    · rw [show (x1 != x2) = true from bne_iff_ne.mpr hx]
      rw [if_pos hx] at hN
      repeat
        first
        | refine kOut ((?_ : KT _ ?_) (kF ?_ ?_))
          rotate_left 2
          · intro h0
            repeat1' ((try rw [exL_x] at h0); simp [xthen_next, xthen_ret, xthen_brk, selB_t, selB_f, puts_nil, puts_cons, exL_e, exS_ifK, -sameO_ii, storesOk, listAt, tupAt, v1, v2, v3, v4, v5, g1, g2, -exS_if, -Int.natCast_pos, -Int.ofNat_lt, -Int.pred_toNat, -Int.toNat_sub', -Option.some.injEq, -Int.natCast_eq_zero, -Bool.not_not, -Int.zero_add, -Int.add_zero, -Int.zero_sub, -Int.sub_neg, -Int.neg_neg, -Int.sub_zero, -Option.map_bind, -bne_self_eq_false, -List.set_append_right, -List.length_replicate, -List.flatten_replicate_singleton, -Nat.one_mul, -Nat.zero_add, -Option.map_map, -List.getElem?_map, -oX_some, -oW_some, -exL_nil, -decide_eq_true_eq, -Bool.or_eq_true, -Bool.and_eq_true, -bne_iff_ne, -beq_iff_eq, -ne_eq, -List.append_assoc, -ge_iff_le, -Int.ofNat_le, -List.length_append, -List.length_map, -List.map_map, -get_len0, -get_lenS, -ints_map, -strs_map, -strs_snoc] at h0)
            exact type_of% h0
          · exact rfl
          intro zK
          clear zK
          refine kk ?_ ?_
          · kernel_rfl
        | simp only [so, so', j1, j3, i1, i2, e4, get_app e4, sk, bi_len_s, bne_self_eq_false, Bool.false_eq_true, if_false, decide_true, assignO_list, lenO_list, lenO_tup, getO_list, getO_tup, List.length_map, Bool.true_or, Bool.or_true, Bool.and_self, Bool.true_and, Bool.and_true, eq_self, if_true]
      have f1 := get_app (G := [tripA (mi, x1, x2)]) e4
      have f2 := trips_pre (pre_app (L := [tripA (mi, x1, x2)]) (List.prefix_rfl (l := X))) tr
      have f3 : (X ++ [tripA (mi, x1, x2)])[X.length]? = some (tripA (mi, x1, x2)) := by simp
      have f4 := pre_app (L := [tripA (mi, x1, x2)]) hp
      refine ox_nil (hN _ _ (witJ_of ra (ks ++ [X.length]) ⟨by kernel_rfl, by kernel_rfl, by kernel_rfl, pre_set f4 hr, hr, ?_, ?_⟩))
      · rw [set_get (show (X ++ [AO.tup [AV.int mi, AV.int x1, AV.int x2]])[ra]? = _ from f1)]; simp
      · exact trips_set f1 (trips_snoc f3 _ _ f2)
  · rintro l X ⟨ra, ks, e1, e2, e3, hp, hr, e4, tr⟩
    refine ⟨rfl, ?_⟩
    dsimp only
    rw [puts_eq (l := l) [("a", _)] ⟨e3, trivial⟩]
    refine kOut ((?_ : KT _ ?_) (kF ?_ ?_))
    rotate_left 2
    · intro h0
      repeat1' ((try rw [exL_x] at h0); simp [xthen_next, xthen_ret, xthen_brk, selB_t, selB_f, puts_nil, puts_cons, exL_e, exS_ifK, -sameO_ii, storesOk, listAt, tupAt, v1, v2, v3, v4, v5, g1, g2, -exS_if, -Int.natCast_pos, -Int.ofNat_lt, -Int.pred_toNat, -Int.toNat_sub', -Option.some.injEq, -Int.natCast_eq_zero, -Bool.not_not, -Int.zero_add, -Int.add_zero, -Int.zero_sub, -Int.sub_neg, -Int.neg_neg, -Int.sub_zero, -Option.map_bind, -bne_self_eq_false, -List.set_append_right, -List.length_replicate, -List.flatten_replicate_singleton, -Nat.one_mul, -Nat.zero_add, -Option.map_map, -List.getElem?_map, -oX_some, -oW_some, -exL_nil, -decide_eq_true_eq, -Bool.or_eq_true, -Bool.and_eq_true, -bne_iff_ne, -beq_iff_eq, -ne_eq, -List.append_assoc, -ge_iff_le, -Int.ofNat_le, -List.length_append, -List.length_map, -List.map_map, -get_len0, -get_lenS, -ints_map, -strs_map, -strs_snoc] at h0)
      exact type_of% h0
    · exact rfl
    intro zK
    clear zK
    refine kk ?_ ?_
    · kernel_rfl
    exact ox_ret (hRet _ _ _ ⟨hp, ra, ks, rfl, e4, tr⟩)
  · exact witJ_of H.length [] ⟨by simp, by simp, by simp, pre_app List.prefix_rfl, Nat.le_refl _, by simp, by simp [witG, Trips]⟩
end Mine.L
end
section
/-! The law's walk: what stands ahead. -/
namespace Mine.L
open PySem
set_option maxRecDepth 100000
set_option linter.unusedSimpArgs false
set_option linter.unusedVariables false

theorem eqs_strs (n : Nat) (H : AH) : ∀ x y : List Str, eqs (eqV (n + 1) H) (x.map AV.str) (y.map AV.str) = some (x == y)
  | [], [] => rfl
  | [], _ :: _ => rfl
  | _ :: _, [] => rfl
  | a :: r, b :: q => by
    have h := eqs_strs n H r q
    simp only [List.map_cons, eqs, h, eqV_ss]
    rfl
theorem ne_strs {H : AH} {j k : Nat} {x y : List Str} (h1 : H[j]? = some (.list (x.map AV.str))) (h2 : H[k]? = some (.list (y.map AV.str))) : cmpop .NotEq (.ref j) (.ref k) H = some (x != y) := by
  show neg? (eqV 3 H (.ref j) (.ref k)) = _
  rw [eqV_rr, eqR_ll h1 h2, eqs_strs 1 H x y]
  rfl
theorem call_ws {E : Evs} {v : AV} {H : AH} {Q : AV → AH → Prop} (h : oW (E.meth "__init__" [.ref (H.length + 1), v] (H ++ [.attrs [], .inst H.length])) fun u H₂ => u = .none ∧ Q (.ref (H.length + 1)) H₂) : oW (callF E "Whitespace" [v] H) Q := by
  refine hide fun hG hF => ?_
  obtain ⟨u, H₂, e, rfl, q⟩ := h
  refine hF ?_
  clear hF hG
  unfold callF
  rw [if_pos rfl]
  show oW (obind (E.meth _ _ _) _) Q
  rw [e]
  exact oW_some.mpr q
noncomputable def opn (x : Int) : Bool := !(x.fmod 2 == 1)
noncomputable def sgS (x : Int) : Str := if opn x then "(" else ")"
noncomputable def ahT : List Str := ["", "\"(\"", "\\)", "\\\\"]
noncomputable def shT : List Str := ["", "", "\\)", "\\\\"]
noncomputable def rawS (x : Int) : Str := ahT.getD (x.fdiv 2).toNat "" ++ sgS x
noncomputable def pcsS (x : Int) : Str := shT.getD (x.fdiv 2).toNat "" ++ sgS x
theorem opn_sg (x : Int) : sgV (opn x) = .str (sgS x) := rfl
theorem tab_get {x : Int} (h0 : 0 ≤ x) (h8 : x < 8) (T : List Str) (hT : T.length = 4) : 0 ≤ x.fdiv 2 ∧ (T.map AV.str)[(x.fdiv 2).toNat]? = some (.str (T.getD (x.fdiv 2).toNat "")) ∧ small (x.fdiv 2) = true := by
  rw [Int.fdiv_eq_ediv_of_nonneg _ (by omega)]
  refine ⟨by omega, ?_, small_lit (by omega) (by omega)⟩
  have : (x / 2).toNat < T.length := by omega
  rw [List.getElem?_map, List.getD_eq_getElem?_getD, List.getElem?_eq_getElem this]
  rfl
theorem zipL_map {α : Type} (f g : α → AV) : ∀ l : List α, zipL (l.map f) (l.map g) = l.map fun x => [f x, g x]
  | [] => rfl
  | x :: r => by simp only [List.map_cons, zipL, zipL_map f g r]
/-- what one size asks of the colours -/
noncomputable def ManyH (rows : List Int) (tally : List (Int × Int)) (size : Nat) (m : Int) : Prop :=
  (tally = [] ∧ m = 0) ∨ ∃ r0 rest, rows = r0 :: rest ∧ tally.isEmpty = false ∧ rest.length ≤ 20 ∧ 0 ≤ r0 ∧ r0 ≤ 20 ∧
    (∀ i, -(rest.length : Int) ≤ i → i ≤ r0 → paintF i size (quartF size) = some (dueF i size (quartF size))) ∧
    paintF (-(rest.length : Int)) size 0 = some (dueF (-(rest.length : Int)) size 0) ∧
    manyF (stopsF (-(rest.length : Int)) r0 fun i => dueF i size (quartF size)) tally (-(rest.length : Int)) = some m
theorem many_all {b : Bool} {ns : List Int} {n : Nat} {H : AH} {k t size : Nat} {rows : List Int} {tally : List (Int × Int)} {m : Int} (hk : H[k]? = some (.list (rows.map .int))) (ht : H[t]? = some (.dict tally)) (hsz : 0 < size) (hsz2 : size ≤ 100) (h : ManyH rows tally size m) :
    oW ((ev b ns (n + 40)).call "_law_many" [.ref k, .ref t, .int size] H) fun w H' => H <+: H' ∧ w = .int m := by
  rcases h with ⟨rfl, rfl⟩ | ⟨r0, rest, rfl, h1, h2, h3, h4, h5, h6, h7⟩
  · exact many_none ht
  · exact many_ok hk ht h1 h2 h3 h4 hsz hsz2 h5 h6 h7
theorem law_vars : ((isVar (fN "law") "script" = true ∧ isVar (fN "law") "numbers" = true ∧ isVar (fN "law") "signs" = true ∧ isVar (fN "law") "ahead" = true ∧ isVar (fN "law") "raw" = true ∧ isVar (fN "law") "shown" = true ∧ isVar (fN "law") "pieces" = true ∧ isVar (fN "law") "left" = true ∧ isVar (fN "law") "rows" = true ∧ isVar (fN "law") "hooks" = true) ∧
    (isVar (fN "law") "tally" = true ∧ isVar (fN "law") "spans" = true ∧ isVar (fN "law") "witnesses" = true ∧ isVar (fN "law") "moved" = true ∧ isVar (fN "law") "size" = true ∧ isVar (fN "law") "many" = true ∧ isVar (fN "law") "far" = true ∧ isVar (fN "law") "near" = true ∧ isVar (fN "law") "whole" = true ∧ isVar (fN "law") "short" = true)) ∧
    ((isGlob (fN "law") "_law_numbers" = true ∧ isGlob (fN "law") "zip" = true ∧ isGlob (fN "law") "_strip_quoted_realnames" = true ∧ isGlob (fN "law") "_law_pieces" = true ∧ isGlob (fN "law") "_law_rows" = true ∧ isGlob (fN "law") "_law_cells" = true ∧ isGlob (fN "law") "_law_spans" = true) ∧
    (isGlob (fN "law") "range" = true ∧ isGlob (fN "law") "max" = true ∧ isGlob (fN "law") "_law_many" = true ∧ isGlob (fN "law") "len" = true ∧ isGlob (fN "law") "_law_astray" = true ∧ isGlob (fN "law") "sum" = true ∧ isGlob (fN "law") "Whitespace" = true)) := by decide +kernel
/-- a comprehension over a list, whose turns make nothing -/
theorem comp_list {b : Bool} {ns : List Int} {n : Nat} {N : Names} {l : AL} {H H' : AH} {elt tg it : Expr} {ifs : List Expr} {sc : Scope} {R : AV → AH → Prop} {k : Nat} {α : Type} {xs : List α} {f : α → AV} (J : AL → Prop) (F : α → AV) (pz : α → Bool)
    (hn : notCall it = true) (hs : (noSet it && soleTarget tg) = true) (hok : compOk N sc = true) (e : (ev b ns n).e it N l H = some (.ref k, H')) (hk : H'[k]? = some (.list (xs.map f))) (hz : xs.length ≤ 1000000) (j0 : J (compLocals sc.names l))
    (step : ∀ x ∈ xs, ∀ lc', J lc' → ∃ l₁, bindK sc.names tg [f x] lc' = some l₁ ∧ J l₁ ∧ ∀ Z, tests (ev b ns n) (compNames sc.names) l₁ ifs (H' ++ [Z]) = some (pz x, H' ++ [Z]) ∧ (pz x = true → (ev b ns n).e elt (compNames sc.names) l₁ (H' ++ [Z]) = some (F x, H' ++ [Z])))
    (q : R (.ref H'.length) (H' ++ [.list ((xs.filter pz).map F)])) : oW (evComp (ev b ns n) N l H elt tg it ifs sc) R := by
  refine ev_comp hok (it_list hn hs e hk ?_)
  rw [List.map_map]
  refine ⟨_, comp_pure (H₀ := H') (fun x => [f x]) J pz F (fun Z => by simp [get_app hk]) xs [] _ j0 (by simpa using hz) step, ?_⟩
  rw [List.nil_append]
  exact q
theorem comp_zip {b : Bool} {ns : List Int} {n : Nat} {N : Names} {l : AL} {H : AH} {elt tg a c : Expr} {p q : Pos} {sc : Scope} {R : AV → AH → Prop} {j k : Nat} {α : Type} {xs : List α} {f g : α → AV} (J : AL → Prop) (F : α → AV)
    (hg : (isGlob N "zip" && plainArgs [a, c]) = true) (ht : isPairTarget tg = true) (hok : compOk N sc = true) (e1 : (ev b ns n).e a N l H = some (.ref j, H)) (e2 : (ev b ns n).e c N l H = some (.ref k, H)) (hj : H[j]? = some (.list (xs.map f))) (hk : H[k]? = some (.list (xs.map g))) (hz : xs.length ≤ 1000000) (j0 : J (compLocals sc.names l))
    (step : ∀ x ∈ xs, ∀ lc', J lc' → ∃ l₁, bindK sc.names tg [f x, g x] lc' = some l₁ ∧ J l₁ ∧ ∀ Z, (ev b ns n).e elt (compNames sc.names) l₁ (H ++ [Z]) = some (F x, H ++ [Z]))
    (r : R (.ref H.length) (H ++ [.list (xs.map F)])) : oW (evComp (ev b ns n) N l H elt tg (.Call (.Name "zip" q) [a, c] [] p) [] sc) R := by
  refine ev_comp hok (it_zip hg ht e1 e2 hj hk ?_)
  rw [zipL_map]
  refine ⟨_, comp_map (H₀ := H) (fun x => [f x, g x]) J F (fun Z => by simp [get_app hj, get_app hk]) xs _ j0 hz (fun x hx lc hl => ?_), r⟩
  obtain ⟨l₁, h1, h2, h3⟩ := step x hx lc hl
  exact ⟨l₁, h1, h2, fun Z => ⟨rfl, h3 Z⟩⟩
end Mine.L
end
section
/-! The law's walk. -/
namespace Mine.L
open PySem
set_option maxRecDepth 100000
set_option linter.unusedSimpArgs false
set_option linter.unusedVariables false

theorem res_cases {x : Int} (h0 : 0 ≤ x) (h8 : x < 8) : x = 0 ∨ x = 1 ∨ x = 2 ∨ x = 3 ∨ x = 4 ∨ x = 5 ∨ x = 6 ∨ x = 7 := by
  obtain ⟨n, rfl⟩ := Int.eq_ofNat_of_zero_le h0
  exact (by decide : ∀ n : Fin 8, (n.1 : Int) = 0 ∨ (n.1 : Int) = 1 ∨ (n.1 : Int) = 2 ∨ (n.1 : Int) = 3 ∨ (n.1 : Int) = 4 ∨ (n.1 : Int) = 5 ∨ (n.1 : Int) = 6 ∨ (n.1 : Int) = 7) ⟨n, Int.ofNat_lt.mp h8⟩
theorem pc_len {x : Int} (h0 : 0 ≤ x) (h8 : x < 8) : ((rawS x).length ≤ 4 ∧ 0 < (rawS x).length) ∧ (pcsS x).length ≤ 4 ∧ ((ahT.getD (x.fdiv 2).toNat "").length ≤ 3 ∧ (shT.getD (x.fdiv 2).toNat "").length ≤ 3) ∧ (sgS x).length = 1 := by
  rcases res_cases h0 h8 with rfl | rfl | rfl | rfl | rfl | rfl | rfl | rfl <;> decide +kernel
noncomputable def farF (hooks : List Int) (size : Nat) : Int := total (hooks.map fun h => (h.fdiv size + 1) * size)
noncomputable def cntF (sp : List Int) (size : Nat) : Int := ((sp.filter fun s => s.fmod size == 0).length : Nat)
noncomputable def wS (hooks sp : List Int) (i : Nat) (size : Nat) : List Trip := if farF hooks size ≠ farF hooks size - cntF sp size * size then [((size : Int), farF hooks size, farF hooks size - cntF sp size * size)] else []
noncomputable def mS (hooks sp : List Int) (i : Nat) (size : Nat) : List Trip := if farF hooks size ≠ farF hooks size - cntF sp size * size + 1 then [((size : Int), farF hooks size, farF hooks size - cntF sp size * size + 1)] else []
noncomputable def wL (hooks sp : List Int) : Nat → List Trip
  | 0 => []
  | i + 1 => wL hooks sp i ++ wS hooks sp i (i + 1)
noncomputable def mL (hooks sp : List Int) : Nat → List Trip
  | 0 => []
  | i + 1 => mL hooks sp i ++ mS hooks sp i (i + 1)
theorem wL_len (hooks sp : List Int) : ∀ i, (wL hooks sp i).length ≤ i
  | 0 => Nat.le_refl _
  | i + 1 => by
    have := wL_len hooks sp i
    unfold wL wS
    rw [List.length_append]
    split <;> simp <;> omega
theorem mL_len (hooks sp : List Int) : ∀ i, (mL hooks sp i).length ≤ i
  | 0 => Nat.le_refl _
  | i + 1 => by
    have := mL_len hooks sp i
    unfold mL mS
    rw [List.length_append]
    split <;> simp <;> omega
structure LawI (X0 : AH) (kw kta kho ksp kr : Nat) (q1 q2 : List Trip) (rw rm : Nat) (kws kms : List Nat) (l : AL) (X : AH) : Prop where
  e1 : l "rows" = some (.ref kw)
  e2 : l "tally" = some (.ref kta)
  e3 : l "hooks" = some (.ref kho)
  e4 : l "spans" = some (.ref ksp)
  e5 : l "raw" = some (.ref kr)
  e6 : l "witnesses" = some (.ref rw)
  e7 : l "moved" = some (.ref rm)
  hp : X0 <+: X
  hw : X0.length ≤ rw
  hm : X0.length ≤ rm
  hn : rw ≠ rm
  x1 : X[rw]? = some (.list (kws.map AV.ref))
  x2 : X[rm]? = some (.list (kms.map AV.ref))
  t1 : Trips X kws q1
  t2 : Trips X kms q2
noncomputable def LawJ (X0 : AH) (kw kta kho ksp kr : Nat) (q1 q2 : List Trip) (l : AL) (X : AH) : Prop := ∃ rw rm kws kms, LawI X0 kw kta kho ksp kr q1 q2 rw rm kws kms l X
theorem lawJ_of {X0 : AH} {kw kta kho ksp kr : Nat} {q1 q2 : List Trip} {l : AL} {X : AH} (rw rm : Nat) (kws kms : List Nat) (h : LawI X0 kw kta kho ksp kr q1 q2 rw rm kws kms l X) : LawJ X0 kw kta kho ksp kr q1 q2 l X := ⟨rw, rm, kws, kms, h⟩
noncomputable def padS (h : Int) : Str := mulS (Str.ofString " ") h ++ Str.ofString "\t"
noncomputable def wholeS (hooks : List Int) : Str := joinS (hooks.map padS)
noncomputable def shortS (hooks : List Int) : Str := joinS (hooks.map fun h => padS (h - 1))
theorem padS_len (h : Int) : (padS h).length = h.toNat + 1 := by
  unfold padS
  rw [len_app, mulS_len1 (by decide +kernel)]
  rw [show (Str.ofString "\t").length = 1 by decide +kernel]
structure LawT (size : Nat) (far near : Int) (l : AL) : Prop where
  e8 : l "size" = some (.int size)
  e9 : l "far" = some (.int far)
  e10 : l "near" = some (.int near)
theorem law_ok {ns : List Int} {n : Nat} (hz : ns.length ≤ 63) {ds : List Int} (hd : numsF ns = ds) (hds : ∀ x ∈ ds, 0 ≤ x ∧ x < 8) (hlen : ds.length ≤ 7)
    {sg : List Bool} (hsg : ds.map opn = sg) {raw pcs : List Str} (hraw : ds.map rawS = raw) (hpcs : ds.map pcsS = pcs)
    (hstrip : stripF (joinS raw) = joinS pcs) (hpieces : piecesF (joinS pcs) = pcs ++ [Str.ofString ""])
    {rows : List Int} (hrows : rowsF sg = rows) (hrb : rows.length ≤ 20) (hrb2 : ∀ x ∈ rows, 0 ≤ x ∧ x ≤ 20)
    {h : HT} (hht : cellsF rows = h) (hhb : h.h.length ≤ 30) (hhb2 : ∀ x ∈ h.h, 1 ≤ x ∧ x ≤ 20) {sp : List Int} (hsp : spansF raw = sp)
    {mx : Nat} (hmx : most 1 h.h = (mx : Int)) (hmx2 : mx ≤ 30) (hm : ∀ size, 1 ≤ size → size ≤ mx + 1 → ManyH rows h.t size (cntF sp size) ∧ ∀ k, k < size → (ownF raw size k).length ≤ 10 ∧ badF (ownF raw size k) = false) (hspl : sp.length ≤ 2000)
    {w0 w1 w2 : WS} (hw0 : wsF (wholeS h.h ++ Str.ofString "x \t") = w0) (hw1 : wsF (shortS h.h ++ Str.ofString "x \t") = w1) (hw2 : wsF (shortS h.h ++ Str.ofString " x\t") = w2)
    (hb0 : w0.count.length ≤ 1000 ∧ w0.b ≤ 1000) (hb1 : w1.count.length ≤ 1000 ∧ w1.b ≤ 1000) (hb2 : w2.count.length ≤ 1000 ∧ w2.b ≤ 1000)
    (hf1 : witF w0 w1 = wL h.h sp (mx + 1)) (hf2 : witF w0 w2 = mL h.h sp (mx + 1)) :
    oW (callBy (ev true ns (n + 50)) topBody "law" [.scr] []) fun v H' => v = .bool true := by
  refine hide fun hG hF => ?_
  obtain ⟨⟨⟨v1, v2, v3, v4, v5, v6, v7, v8, v9, v10⟩, v11, v12, v13, v14, v15, v16, v17, v18, v19, v20⟩, ⟨g1, g2, g3, g4, g5, g6, g7⟩, g8, g9, g10, g11, g12, g13, g14⟩ := law_vars
  refine hF ?_
  clear hF hG
  have sm2 : small 2 = true := small_lit (by decide) (by decide)
  refine call_K (ps := ["script"]) (N := fN "law") rfl rfl (by decide +kernel) fun P hP => ?_
  refine kOut ((?_ : KT _ ?_) (kF ?_ ?_))
  rotate_left 2
  · intro h0
    repeat1' ((try rw [exL_x] at h0); simp [xthen_next, xthen_ret, xthen_brk, selB_t, selB_f, puts_nil, puts_cons, exL_e, exS_ifK, storesOk, listAt, tupAt, v1, v2, v3, v4, v5, v6, v7, v8, v9, v10, v11, v12, v13, v14, v15, v16, v17, v18, v19, v20, g1, g2, g3, g4, g5, g6, g7, g8, g9, g10, g11, g12, g13, g14, -exS_if, -Int.natCast_pos, -Int.ofNat_lt, -Int.pred_toNat, -Int.toNat_sub', -Option.some.injEq, -Int.natCast_eq_zero, -Bool.not_not, -Int.zero_add, -Int.add_zero, -Int.zero_sub, -Int.sub_neg, -Int.neg_neg, -Int.sub_zero, -Option.map_bind, -bne_self_eq_false, -List.set_append_right, -List.length_replicate, -List.flatten_replicate_singleton, -Nat.one_mul, -Nat.zero_add, -Option.map_map, -List.getElem?_map, -oX_some, -oW_some, -exL_nil, -decide_eq_true_eq, -Bool.or_eq_true, -Bool.and_eq_true, -bne_iff_ne, -beq_iff_eq, -ne_eq, -List.append_assoc, -ge_iff_le, -Int.ofNat_le, -List.length_append, -List.length_map, -List.map_map, -get_len0, -get_lenS, -ints_map, -strs_map, -strs_snoc] at h0)
    exact type_of% h0
  · exact rfl
  intro zK
  clear zK
  refine kk ?_ ?_
  · kernel_rfl
  try with_reducible refine ox_bindI ?_
  repeat with_reducible refine oW_bindI ?_
  refine oW_mono (numbers_ok (by first | exact Nat.le_trans (by assumption) (by decide) | omega)) ?_
  rintro v X1 ⟨_, kn, rfl, n1⟩
  rw [hd] at n1
  refine kOut ((?_ : KT _ ?_) (kF ?_ ?_))
  rotate_left 2
  · intro h0
    repeat1' ((try rw [exL_x] at h0); simp [xthen_next, xthen_ret, xthen_brk, selB_t, selB_f, puts_nil, puts_cons, exL_e, exS_ifK, storesOk, listAt, tupAt, v1, v2, v3, v4, v5, v6, v7, v8, v9, v10, v11, v12, v13, v14, v15, v16, v17, v18, v19, v20, g1, g2, g3, g4, g5, g6, g7, g8, g9, g10, g11, g12, g13, g14, -exS_if, -Int.natCast_pos, -Int.ofNat_lt, -Int.pred_toNat, -Int.toNat_sub', -Option.some.injEq, -Int.natCast_eq_zero, -Bool.not_not, -Int.zero_add, -Int.add_zero, -Int.zero_sub, -Int.sub_neg, -Int.neg_neg, -Int.sub_zero, -Option.map_bind, -bne_self_eq_false, -List.set_append_right, -List.length_replicate, -List.flatten_replicate_singleton, -Nat.one_mul, -Nat.zero_add, -Option.map_map, -List.getElem?_map, -oX_some, -oW_some, -exL_nil, -decide_eq_true_eq, -Bool.or_eq_true, -Bool.and_eq_true, -bne_iff_ne, -beq_iff_eq, -ne_eq, -List.append_assoc, -ge_iff_le, -Int.ofNat_le, -List.length_append, -List.length_map, -List.map_map, -get_len0, -get_lenS, -ints_map, -strs_map, -strs_snoc] at h0)
    exact type_of% h0
  · exact rfl
  intro zK
  clear zK
  refine kk ?_ ?_
  · kernel_rfl
  rw [exL_x, exS_ncomp v3]; refine ox_bindI ?_
  refine comp_list (k := kn) (H' := X1) (xs := ds) (f := AV.int) (fun _ => True) (fun x => sgV (opn x)) (fun _ => true) rfl rfl (by decide +kernel) (by simp [v2]) n1 (by first | exact Nat.le_trans (by assumption) (by decide) | omega) trivial ?_ ?_
  · intro x hx lc _
    have h2 : ((x.fmod 2 == 1) = true ∧ opn x = false) ∨ ((x.fmod 2 == 1) = false ∧ opn x = true) := by
      unfold opn
      cases x.fmod 2 == 1 <;> simp
    rcases h2 with ⟨a, b⟩ | ⟨a, b⟩
    · simp at a
      simp [isVar, compNames, List.lookup_cons, a, b, sgV]
    · simp at a
      simp [isVar, compNames, List.lookup_cons, a, b, sgV]
  rw [List.filter_eq_self.mpr (fun _ _ => rfl)]
  have n2 := get_app (G := [AO.list (ds.map fun x => sgV (opn x))]) n1
  have s2 := get_len0 (X := X1) (L := [AO.list (ds.map fun x => sgV (opn x))])
  generalize X1.length = ks at s2 ⊢
  generalize X1 ++ [AO.list (ds.map fun x => sgV (opn x))] = X2 at n2 s2 ⊢
  simp only [List.getElem?_cons_zero] at s2
  refine kOut ((?_ : KT _ ?_) (kF ?_ ?_))
  rotate_left 2
  · intro h0
    repeat1' ((try rw [exL_x] at h0); simp [xthen_next, xthen_ret, xthen_brk, selB_t, selB_f, puts_nil, puts_cons, exL_e, exS_ifK, storesOk, listAt, tupAt, v1, v2, v3, v4, v5, v6, v7, v8, v9, v10, v11, v12, v13, v14, v15, v16, v17, v18, v19, v20, g1, g2, g3, g4, g5, g6, g7, g8, g9, g10, g11, g12, g13, g14, -exS_if, -Int.natCast_pos, -Int.ofNat_lt, -Int.pred_toNat, -Int.toNat_sub', -Option.some.injEq, -Int.natCast_eq_zero, -Bool.not_not, -Int.zero_add, -Int.add_zero, -Int.zero_sub, -Int.sub_neg, -Int.neg_neg, -Int.sub_zero, -Option.map_bind, -bne_self_eq_false, -List.set_append_right, -List.length_replicate, -List.flatten_replicate_singleton, -Nat.one_mul, -Nat.zero_add, -Option.map_map, -List.getElem?_map, -oX_some, -oW_some, -exL_nil, -decide_eq_true_eq, -Bool.or_eq_true, -Bool.and_eq_true, -bne_iff_ne, -beq_iff_eq, -ne_eq, -List.append_assoc, -ge_iff_le, -Int.ofNat_le, -List.length_append, -List.length_map, -List.map_map, -get_len0, -get_lenS, -ints_map, -strs_map, -strs_snoc] at h0)
    exact type_of% h0
  · exact rfl
  intro zK
  clear zK
  refine kk ?_ ?_
  · kernel_rfl
  have n3 := get_app (G := [AO.list (ahT.map AV.str)]) n2
  have s3 := get_app (G := [AO.list (ahT.map AV.str)]) s2
  have a3 := get_len0 (X := X2) (L := [AO.list (ahT.map AV.str)])
  have hah : [AV.str (Str.ofString ""), AV.str (Str.ofString "\"(\""), AV.str (Str.ofString "\\)"), AV.str (Str.ofString "\\\\")] = ahT.map AV.str := rfl
  rw [hah]
  generalize X2.length = ka at a3 ⊢
  generalize X2 ++ [AO.list (ahT.map AV.str)] = X3 at n3 s3 a3 ⊢
  simp only [List.getElem?_cons_zero] at a3
  rw [exL_x, exS_ncomp v5]; refine ox_bindI ?_
  refine comp_zip (j := kn) (k := ks) (xs := ds) (f := AV.int) (g := fun x => sgV (opn x)) (fun lc => lc "ahead" = some (.ref ka)) (fun x => .str (rawS x)) (by rw [g2]; rfl) rfl (by decide +kernel) (by simp [v2]) (by simp [v3]) n3 s3 (by first | exact Nat.le_trans (by assumption) (by decide) | omega) ?_ ?_ ?_
  · simp [compLocals, List.lookup_cons]
  · intro x hx lc hlc
    obtain ⟨t1, t2, t3⟩ := tab_get (hds x hx).1 (hds x hx).2 ahT rfl
    have hp := pc_len (hds x hx).1 (hds x hx).2
    have hs : sizeOk ((ahT.getD (x.fdiv 2).toNat (Str.ofString "")).length + (sgS x).length) = true := size_le (by first | exact Nat.le_trans (by assumption) (by decide) | omega)
    have hr : rawS x = ahT.getD (x.fdiv 2).toNat (Str.ofString "") ++ sgS x := rfl
    rw [hr]
    generalize ahT.getD (x.fdiv 2).toNat (Str.ofString "") = z at t2 hs ⊢
    simp [isVar, compNames, List.lookup_cons, hlc, get_app a3, t1, t2, t3, opn_sg, hs, sm2]
  have hraw2 : ds.map (fun x => AV.str (rawS x)) = raw.map AV.str := by rw [← hraw]; simp
  have hpcs2 : ds.map (fun x => AV.str (pcsS x)) = pcs.map AV.str := by rw [← hpcs]; simp
  rw [hraw2]
  have n4 := get_app (G := [AO.list (raw.map AV.str)]) n3
  have s4 := get_app (G := [AO.list (raw.map AV.str)]) s3
  have r4 := get_len0 (X := X3) (L := [AO.list (raw.map AV.str)])
  generalize X3.length = kr at r4 ⊢
  generalize X3 ++ [AO.list (raw.map AV.str)] = X4 at n4 s4 r4 ⊢
  simp only [List.getElem?_cons_zero] at r4
  refine kOut ((?_ : KT _ ?_) (kF ?_ ?_))
  rotate_left 2
  · intro h0
    repeat1' ((try rw [exL_x] at h0); simp [xthen_next, xthen_ret, xthen_brk, selB_t, selB_f, puts_nil, puts_cons, exL_e, exS_ifK, storesOk, listAt, tupAt, v1, v2, v3, v4, v5, v6, v7, v8, v9, v10, v11, v12, v13, v14, v15, v16, v17, v18, v19, v20, g1, g2, g3, g4, g5, g6, g7, g8, g9, g10, g11, g12, g13, g14, -exS_if, -Int.natCast_pos, -Int.ofNat_lt, -Int.pred_toNat, -Int.toNat_sub', -Option.some.injEq, -Int.natCast_eq_zero, -Bool.not_not, -Int.zero_add, -Int.add_zero, -Int.zero_sub, -Int.sub_neg, -Int.neg_neg, -Int.sub_zero, -Option.map_bind, -bne_self_eq_false, -List.set_append_right, -List.length_replicate, -List.flatten_replicate_singleton, -Nat.one_mul, -Nat.zero_add, -Option.map_map, -List.getElem?_map, -oX_some, -oW_some, -exL_nil, -decide_eq_true_eq, -Bool.or_eq_true, -Bool.and_eq_true, -bne_iff_ne, -beq_iff_eq, -ne_eq, -List.append_assoc, -ge_iff_le, -Int.ofNat_le, -List.length_append, -List.length_map, -List.map_map, -get_len0, -get_lenS, -ints_map, -strs_map, -strs_snoc] at h0)
    exact type_of% h0
  · exact rfl
  intro zK
  clear zK
  refine kk ?_ ?_
  · kernel_rfl
  have hsh : [AV.str (Str.ofString ""), AV.str (Str.ofString ""), AV.str (Str.ofString "\\)"), AV.str (Str.ofString "\\\\")] = shT.map AV.str := rfl
  rw [hsh]
  have n5 := get_app (G := [AO.list (shT.map AV.str)]) n4
  have s5 := get_app (G := [AO.list (shT.map AV.str)]) s4
  have r5 := get_app (G := [AO.list (shT.map AV.str)]) r4
  have a5 := get_len0 (X := X4) (L := [AO.list (shT.map AV.str)])
  generalize X4.length = kh at a5 ⊢
  generalize X4 ++ [AO.list (shT.map AV.str)] = X5 at n5 s5 r5 a5 ⊢
  simp only [List.getElem?_cons_zero] at a5
  rw [exL_x, exS_ncomp v7]; refine ox_bindI ?_
  refine comp_zip (j := kn) (k := ks) (xs := ds) (f := AV.int) (g := fun x => sgV (opn x)) (fun lc => lc "shown" = some (.ref kh)) (fun x => .str (pcsS x)) (by rw [g2]; rfl) rfl (by decide +kernel) (by simp [v2]) (by simp [v3]) n5 s5 (by first | exact Nat.le_trans (by assumption) (by decide) | omega) ?_ ?_ ?_
  · simp [compLocals, List.lookup_cons]
  · intro x hx lc hlc
    obtain ⟨t1, t2, t3⟩ := tab_get (hds x hx).1 (hds x hx).2 shT rfl
    have hp := pc_len (hds x hx).1 (hds x hx).2
    have hs : sizeOk ((shT.getD (x.fdiv 2).toNat (Str.ofString "")).length + (sgS x).length) = true := size_le (by first | exact Nat.le_trans (by assumption) (by decide) | omega)
    have hr : pcsS x = shT.getD (x.fdiv 2).toNat (Str.ofString "") ++ sgS x := rfl
    rw [hr]
    generalize shT.getD (x.fdiv 2).toNat (Str.ofString "") = z at t2 hs ⊢
    simp [isVar, compNames, List.lookup_cons, hlc, get_app a5, t1, t2, t3, opn_sg, hs, sm2]
  rw [hpcs2]
  have s6 := get_app (G := [AO.list (pcs.map AV.str)]) s5
  have r6 := get_app (G := [AO.list (pcs.map AV.str)]) r5
  have p6 := get_len0 (X := X5) (L := [AO.list (pcs.map AV.str)])
  generalize X5.length = kp at p6 ⊢
  generalize X5 ++ [AO.list (pcs.map AV.str)] = X6 at s6 r6 p6 ⊢
  simp only [List.getElem?_cons_zero] at p6
  have lraw : ∀ x ∈ raw, x.length ≤ 4 ∧ 0 < x.length := by
    rw [← hraw]
    intro y hy
    obtain ⟨x, hx, rfl⟩ := List.mem_map.mp hy
    exact (pc_len (hds x hx).1 (hds x hx).2).1
  have lpcs : ∀ x ∈ pcs, x.length ≤ 4 := by
    rw [← hpcs]
    intro y hy
    obtain ⟨x, hx, rfl⟩ := List.mem_map.mp hy
    exact (pc_len (hds x hx).1 (hds x hx).2).2.1
  have lraw7 : raw.length ≤ 7 := by rw [← hraw]; simpa using hlen
  have lpcs7 : pcs.length ≤ 7 := by rw [← hpcs]; simpa using hlen
  have lr := sumLen_le 4 raw fun x hx => (lraw x hx).1
  have lp := sumLen_le 4 pcs lpcs
  have sr : sizeOk (sumLen raw) = true := size_le (by first | exact Nat.le_trans (by assumption) (by decide) | omega)
  have sp' : sizeOk (sumLen pcs) = true := size_le (by first | exact Nat.le_trans (by assumption) (by decide) | omega)
  repeat
    first
    | refine kOut ((?_ : KT _ ?_) (kF ?_ ?_))
      rotate_left 2
      · intro h0
        repeat1' ((try rw [exL_x] at h0); simp [xthen_next, xthen_ret, xthen_brk, selB_t, selB_f, puts_nil, puts_cons, exL_e, exS_ifK, storesOk, listAt, tupAt, v1, v2, v3, v4, v5, v6, v7, v8, v9, v10, v11, v12, v13, v14, v15, v16, v17, v18, v19, v20, g1, g2, g3, g4, g5, g6, g7, g8, g9, g10, g11, g12, g13, g14, -exS_if, -Int.natCast_pos, -Int.ofNat_lt, -Int.pred_toNat, -Int.toNat_sub', -Option.some.injEq, -Int.natCast_eq_zero, -Bool.not_not, -Int.zero_add, -Int.add_zero, -Int.zero_sub, -Int.sub_neg, -Int.neg_neg, -Int.sub_zero, -Option.map_bind, -bne_self_eq_false, -List.set_append_right, -List.length_replicate, -List.flatten_replicate_singleton, -Nat.one_mul, -Nat.zero_add, -Option.map_map, -List.getElem?_map, -oX_some, -oW_some, -exL_nil, -decide_eq_true_eq, -Bool.or_eq_true, -Bool.and_eq_true, -bne_iff_ne, -beq_iff_eq, -ne_eq, -List.append_assoc, -ge_iff_le, -Int.ofNat_le, -List.length_append, -List.length_map, -List.map_map, -get_len0, -get_lenS, -ints_map, -strs_map, -strs_snoc] at h0)
        exact type_of% h0
      · exact rfl
      intro zK
      clear zK
      refine kk ?_ ?_
      · kernel_rfl
    | simp only [r6, sr, strs_map, bi_len_s, bne_self_eq_false, Bool.false_eq_true, if_false, decide_true, assignO_list, lenO_list, lenO_tup, getO_list, getO_tup, List.length_map, Bool.true_or, Bool.or_true, Bool.and_self, Bool.true_and, Bool.and_true, eq_self, if_true]
  try with_reducible refine ox_bindI ?_
  repeat with_reducible refine oW_bindI ?_
  refine oW_mono (strip_ok (by rw [joinS_len]; omega)) ?_
  rintro v X7 ⟨hp7, rfl⟩
  rw [hstrip]
  have s7 := pre_at hp7 s6
  have r7 := pre_at hp7 r6
  have p7 := pre_at hp7 p6
  clear hp7
  repeat
    first
    | refine kOut ((?_ : KT _ ?_) (kF ?_ ?_))
      rotate_left 2
      · intro h0
        repeat1' ((try rw [exL_x] at h0); simp [xthen_next, xthen_ret, xthen_brk, selB_t, selB_f, puts_nil, puts_cons, exL_e, exS_ifK, storesOk, listAt, tupAt, v1, v2, v3, v4, v5, v6, v7, v8, v9, v10, v11, v12, v13, v14, v15, v16, v17, v18, v19, v20, g1, g2, g3, g4, g5, g6, g7, g8, g9, g10, g11, g12, g13, g14, -exS_if, -Int.natCast_pos, -Int.ofNat_lt, -Int.pred_toNat, -Int.toNat_sub', -Option.some.injEq, -Int.natCast_eq_zero, -Bool.not_not, -Int.zero_add, -Int.add_zero, -Int.zero_sub, -Int.sub_neg, -Int.neg_neg, -Int.sub_zero, -Option.map_bind, -bne_self_eq_false, -List.set_append_right, -List.length_replicate, -List.flatten_replicate_singleton, -Nat.one_mul, -Nat.zero_add, -Option.map_map, -List.getElem?_map, -oX_some, -oW_some, -exL_nil, -decide_eq_true_eq, -Bool.or_eq_true, -Bool.and_eq_true, -bne_iff_ne, -beq_iff_eq, -ne_eq, -List.append_assoc, -ge_iff_le, -Int.ofNat_le, -List.length_append, -List.length_map, -List.map_map, -get_len0, -get_lenS, -ints_map, -strs_map, -strs_snoc] at h0)
        exact type_of% h0
      · exact rfl
      intro zK
      clear zK
      refine kk ?_ ?_
      · kernel_rfl
    | simp only [p7, sp', strs_map, bi_len_s, bne_self_eq_false, Bool.false_eq_true, if_false, decide_true, assignO_list, lenO_list, lenO_tup, getO_list, getO_tup, List.length_map, Bool.true_or, Bool.or_true, Bool.and_self, Bool.true_and, Bool.and_true, eq_self, if_true]
  try with_reducible refine ox_bindI ?_
  repeat with_reducible refine oW_bindI ?_
  refine oW_mono (pieces_ok (by rw [joinS_len]; omega)) ?_
  rintro v X8 ⟨hp8, kq, rfl, q8⟩
  rw [hpieces] at q8
  have s8 := pre_at hp8 s7
  have r8 := pre_at hp8 r7
  have p8 := pre_at hp8 p7
  clear hp8
  have s9' : sizeOk (pcs.length + 1) = true := size_le (by first | exact Nat.le_trans (by assumption) (by decide) | omega)
  have hne : cmpop .NotEq (.ref kq) (.ref (X8.length + 1)) (X8 ++ [AO.list [AV.str (Str.ofString "")], AO.list (pcs.map AV.str ++ [AV.str (Str.ofString "")])]) = some false := by
    rw [ne_strs (get_app q8) (y := pcs ++ [Str.ofString ""]) (by simp)]; simp
  simp [get_app p8, s9', hne]
  have s9 := get_app (G := [AO.list [AV.str (Str.ofString "")], AO.list (pcs.map AV.str ++ [AV.str (Str.ofString "")])]) s8
  have r9 := get_app (G := [AO.list [AV.str (Str.ofString "")], AO.list (pcs.map AV.str ++ [AV.str (Str.ofString "")])]) r8
  have hsg2 : ds.map (fun x => sgV (opn x)) = sg.map sgV := by rw [← hsg]; simp
  rw [hsg2] at s9
  have lsg : sg.length ≤ 7 := by rw [← hsg]; simpa using hlen
  generalize X8 ++ [AO.list [AV.str (Str.ofString "")], AO.list (pcs.map AV.str ++ [AV.str (Str.ofString "")])] = X9 at s9 r9 ⊢
  clear s2 s3 s4 s5 s6 s7 s8 r4 r5 r6 r7 r8 n1 n2 n3 n4 n5 a3 a5 p6 p7 p8 q8 hne
  refine kOut ((?_ : KT _ ?_) (kF ?_ ?_))
  rotate_left 2
  · intro h0
    repeat1' ((try rw [exL_x] at h0); simp [xthen_next, xthen_ret, xthen_brk, selB_t, selB_f, puts_nil, puts_cons, exL_e, exS_ifK, storesOk, listAt, tupAt, v1, v2, v3, v4, v5, v6, v7, v8, v9, v10, v11, v12, v13, v14, v15, v16, v17, v18, v19, v20, g1, g2, g3, g4, g5, g6, g7, g8, g9, g10, g11, g12, g13, g14, -exS_if, -Int.natCast_pos, -Int.ofNat_lt, -Int.pred_toNat, -Int.toNat_sub', -Option.some.injEq, -Int.natCast_eq_zero, -Bool.not_not, -Int.zero_add, -Int.add_zero, -Int.zero_sub, -Int.sub_neg, -Int.neg_neg, -Int.sub_zero, -Option.map_bind, -bne_self_eq_false, -List.set_append_right, -List.length_replicate, -List.flatten_replicate_singleton, -Nat.one_mul, -Nat.zero_add, -Option.map_map, -List.getElem?_map, -oX_some, -oW_some, -exL_nil, -decide_eq_true_eq, -Bool.or_eq_true, -Bool.and_eq_true, -bne_iff_ne, -beq_iff_eq, -ne_eq, -List.append_assoc, -ge_iff_le, -Int.ofNat_le, -List.length_append, -List.length_map, -List.map_map, -get_len0, -get_lenS, -ints_map, -strs_map, -strs_snoc] at h0)
    exact type_of% h0
  · exact rfl
  intro zK
  clear zK
  refine kk ?_ ?_
  · kernel_rfl
  try with_reducible refine ox_bindI ?_
  repeat with_reducible refine oW_bindI ?_
  refine oW_mono (rows_ok s9 (by first | exact Nat.le_trans (by assumption) (by decide) | omega)) ?_
  rintro v X10 ⟨hp10, kw, rfl, w10⟩
  rw [hrows] at w10
  have r10 := pre_at hp10 r9
  clear hp10 s9 r9
  refine kOut ((?_ : KT _ ?_) (kF ?_ ?_))
  rotate_left 2
  · intro h0
    repeat1' ((try rw [exL_x] at h0); simp [xthen_next, xthen_ret, xthen_brk, selB_t, selB_f, puts_nil, puts_cons, exL_e, exS_ifK, storesOk, listAt, tupAt, v1, v2, v3, v4, v5, v6, v7, v8, v9, v10, v11, v12, v13, v14, v15, v16, v17, v18, v19, v20, g1, g2, g3, g4, g5, g6, g7, g8, g9, g10, g11, g12, g13, g14, -exS_if, -Int.natCast_pos, -Int.ofNat_lt, -Int.pred_toNat, -Int.toNat_sub', -Option.some.injEq, -Int.natCast_eq_zero, -Bool.not_not, -Int.zero_add, -Int.add_zero, -Int.zero_sub, -Int.sub_neg, -Int.neg_neg, -Int.sub_zero, -Option.map_bind, -bne_self_eq_false, -List.set_append_right, -List.length_replicate, -List.flatten_replicate_singleton, -Nat.one_mul, -Nat.zero_add, -Option.map_map, -List.getElem?_map, -oX_some, -oW_some, -exL_nil, -decide_eq_true_eq, -Bool.or_eq_true, -Bool.and_eq_true, -bne_iff_ne, -beq_iff_eq, -ne_eq, -List.append_assoc, -ge_iff_le, -Int.ofNat_le, -List.length_append, -List.length_map, -List.map_map, -get_len0, -get_lenS, -ints_map, -strs_map, -strs_snoc] at h0)
    exact type_of% h0
  · exact rfl
  intro zK
  clear zK
  refine kk ?_ ?_
  · kernel_rfl
  try with_reducible refine ox_bindI ?_
  repeat with_reducible refine oW_bindI ?_
  refine oW_mono (cells_ok w10 (by first | exact Nat.le_trans (by assumption) (by decide) | omega) hrb2) ?_
  rintro v X11 ⟨hp11, kt, kho, kta, rfl, t11, h11, ta11⟩
  rw [hht] at h11 ta11
  have r11 := pre_at hp11 r10
  have w11 := pre_at hp11 w10
  clear hp11 r10 w10
  repeat
    first
    | refine kOut ((?_ : KT _ ?_) (kF ?_ ?_))
      rotate_left 2
      · intro h0
        repeat1' ((try rw [exL_x] at h0); simp [xthen_next, xthen_ret, xthen_brk, selB_t, selB_f, puts_nil, puts_cons, exL_e, exS_ifK, storesOk, listAt, tupAt, v1, v2, v3, v4, v5, v6, v7, v8, v9, v10, v11, v12, v13, v14, v15, v16, v17, v18, v19, v20, g1, g2, g3, g4, g5, g6, g7, g8, g9, g10, g11, g12, g13, g14, -exS_if, -Int.natCast_pos, -Int.ofNat_lt, -Int.pred_toNat, -Int.toNat_sub', -Option.some.injEq, -Int.natCast_eq_zero, -Bool.not_not, -Int.zero_add, -Int.add_zero, -Int.zero_sub, -Int.sub_neg, -Int.neg_neg, -Int.sub_zero, -Option.map_bind, -bne_self_eq_false, -List.set_append_right, -List.length_replicate, -List.flatten_replicate_singleton, -Nat.one_mul, -Nat.zero_add, -Option.map_map, -List.getElem?_map, -oX_some, -oW_some, -exL_nil, -decide_eq_true_eq, -Bool.or_eq_true, -Bool.and_eq_true, -bne_iff_ne, -beq_iff_eq, -ne_eq, -List.append_assoc, -ge_iff_le, -Int.ofNat_le, -List.length_append, -List.length_map, -List.map_map, -get_len0, -get_lenS, -ints_map, -strs_map, -strs_snoc] at h0)
        exact type_of% h0
      · exact rfl
      intro zK
      clear zK
      refine kk ?_ ?_
      · kernel_rfl
    | simp only [t11, bi_len_s, bne_self_eq_false, Bool.false_eq_true, if_false, decide_true, assignO_list, lenO_list, lenO_tup, getO_list, getO_tup, List.length_map, Bool.true_or, Bool.or_true, Bool.and_self, Bool.true_and, Bool.and_true, eq_self, if_true]
  try with_reducible refine ox_bindI ?_
  repeat with_reducible refine oW_bindI ?_
  refine oW_mono (spans_ok r11 (by first | exact Nat.le_trans (by assumption) (by decide) | omega) (fun x hx => by have := (lraw x hx).1; omega)) ?_
  rintro v X12 ⟨hp12, ksp, rfl, sp12⟩
  rw [hsp] at sp12
  have r12 := pre_at hp12 r11
  have w12 := pre_at hp12 w11
  have h12 := pre_at hp12 h11
  have ta12 := pre_at hp12 ta11
  clear hp12 r11 w11 h11 ta11 t11
  refine kOut ((?_ : KT _ ?_) (kF ?_ ?_))
  rotate_left 2
  · intro h0
    repeat1' ((try rw [exL_x] at h0); simp [xthen_next, xthen_ret, xthen_brk, selB_t, selB_f, puts_nil, puts_cons, exL_e, exS_ifK, storesOk, listAt, tupAt, v1, v2, v3, v4, v5, v6, v7, v8, v9, v10, v11, v12, v13, v14, v15, v16, v17, v18, v19, v20, g1, g2, g3, g4, g5, g6, g7, g8, g9, g10, g11, g12, g13, g14, -exS_if, -Int.natCast_pos, -Int.ofNat_lt, -Int.pred_toNat, -Int.toNat_sub', -Option.some.injEq, -Int.natCast_eq_zero, -Bool.not_not, -Int.zero_add, -Int.add_zero, -Int.zero_sub, -Int.sub_neg, -Int.neg_neg, -Int.sub_zero, -Option.map_bind, -bne_self_eq_false, -List.set_append_right, -List.length_replicate, -List.flatten_replicate_singleton, -Nat.one_mul, -Nat.zero_add, -Option.map_map, -List.getElem?_map, -oX_some, -oW_some, -exL_nil, -decide_eq_true_eq, -Bool.or_eq_true, -Bool.and_eq_true, -bne_iff_ne, -beq_iff_eq, -ne_eq, -List.append_assoc, -ge_iff_le, -Int.ofNat_le, -List.length_append, -List.length_map, -List.map_map, -get_len0, -get_lenS, -ints_map, -strs_map, -strs_snoc] at h0)
    exact type_of% h0
  · exact rfl
  intro zK
  clear zK
  refine kk ?_ ?_
  · kernel_rfl
  simp only [List.append_assoc, List.cons_append, List.nil_append, List.length_append, List.length_cons, List.length_nil, Nat.zero_add]
  have sh1 : sizeOk (1 + h.h.length) = true := size_le (by first | exact Nat.le_trans (by assumption) (by decide) | omega)
  have sm1 : small 1 = true := small_lit (by decide) (by decide)
  have smx : small ((mx : Int) + 2) = true := small_lit (by first | exact Nat.le_trans (by assumption) (by decide) | omega) (by first | exact Nat.le_trans (by assumption) (by decide) | omega)
  have r13 := get_app (G := [AO.list [], AO.list []]) r12
  have w13 := get_app (G := [AO.list [], AO.list []]) w12
  have h13 := get_app (G := [AO.list [], AO.list []]) h12
  have ta13 := get_app (G := [AO.list [], AO.list []]) ta12
  have sp13 := get_app (G := [AO.list [], AO.list []]) sp12
  have y1 : (X12 ++ [AO.list [], AO.list []])[X12.length]? = some (.list []) := by simp
  have y2 : (X12 ++ [AO.list [], AO.list []])[X12.length + 1]? = some (.list []) := by simp
  have yp := pre_app (L := [AO.list [], AO.list []]) (List.prefix_rfl (l := X12))
  generalize X12 ++ [AO.list [], AO.list []] = X13 at r13 w13 h13 ta13 sp13 y1 y2 yp ⊢
  try rw [exL_cons, exS_for]
  refine it_range2 (by rw [g8]; rfl) rfl ?_
  simp [v10, g9, listAt, get_app h13, sh1, ints?, sm1, hmx, smx]
  refine for_rangeK (n := mx + 1) (fun i l X => LawJ X12 kw kta kho ksp kr (wL h.h sp i) (mL h.h sp i) l X) ?_ ?_ _ _ ?_ (by first | exact Nat.le_trans (by assumption) (by decide) | omega)
  · rintro i l X hi ⟨rw', rm, kws, kms, e1, e2, e3, e4, e5, e6, e7, hp, hw, hmr, hn, x1, x2, t1, t2⟩
    refine ⟨rfl, _, bindT_name v15, fun P' hN hR => ?_⟩
    replace hN : ∀ l' X', LawJ X12 kw kta kho ksp kr (wL h.h sp i ++ wS h.h sp i (i + 1)) (mL h.h sp i ++ mS h.h sp i (i + 1)) l' X' → P' .next l' X' := hN
    clear hR
    have hl1 := wL_len h.h sp i
    have hl2 := mL_len h.h sp i
    generalize wL h.h sp i = Q1 at t1 hl1 hN
    generalize mL h.h sp i = Q2 at t2 hl2 hN
    have hkl1 := trips_len _ _ t1
    have hkl2 := trips_len _ _ t2
    obtain ⟨hm1, hm2⟩ := hm (i + 1) (by first | exact Nat.le_trans (by assumption) (by decide) | omega) (by first | exact Nat.le_trans (by assumption) (by decide) | omega)
    generalize hsz : i + 1 = size at hm1 hm2 hN
    have hc : (1 : Int) + (i : Int) = (size : Int) := by omega
    rw [hc]
    rw [puts_eq (l := l) [("rows", _), ("tally", _), ("hooks", _), ("spans", _), ("raw", _), ("witnesses", _), ("moved", _)] ⟨e1, e2, e3, e4, e5, e6, e7, trivial⟩]
    have ssz : small (size : Int) = true := small_lit (by first | exact Nat.le_trans (by assumption) (by decide) | omega) (by first | exact Nat.le_trans (by assumption) (by decide) | omega)
    have nsz : ¬ ((size : Int) = 0) := by omega
    have nsz' : ¬ (size = 0) := by omega
    have ur := pre_at hp r12
    have uw := pre_at hp w12
    have uh := pre_at hp h12
    have ut := pre_at hp ta12
    have us := pre_at hp sp12
    repeat
      first
      | refine kOut ((?_ : KT _ ?_) (kF ?_ ?_))
        rotate_left 2
        · intro h0
          repeat1' ((try rw [exL_x] at h0); simp [xthen_next, xthen_ret, xthen_brk, selB_t, selB_f, puts_nil, puts_cons, exL_e, exS_ifK, storesOk, listAt, tupAt, v1, v2, v3, v4, v5, v6, v7, v8, v9, v10, v11, v12, v13, v14, v15, v16, v17, v18, v19, v20, g1, g2, g3, g4, g5, g6, g7, g8, g9, g10, g11, g12, g13, g14, -exS_if, -Int.natCast_pos, -Int.ofNat_lt, -Int.pred_toNat, -Int.toNat_sub', -Option.some.injEq, -Int.natCast_eq_zero, -Bool.not_not, -Int.zero_add, -Int.add_zero, -Int.zero_sub, -Int.sub_neg, -Int.neg_neg, -Int.sub_zero, -Option.map_bind, -bne_self_eq_false, -List.set_append_right, -List.length_replicate, -List.flatten_replicate_singleton, -Nat.one_mul, -Nat.zero_add, -Option.map_map, -List.getElem?_map, -oX_some, -oW_some, -exL_nil, -decide_eq_true_eq, -Bool.or_eq_true, -Bool.and_eq_true, -bne_iff_ne, -beq_iff_eq, -ne_eq, -List.append_assoc, -ge_iff_le, -Int.ofNat_le, -List.length_append, -List.length_map, -List.map_map, -get_len0, -get_lenS, -ints_map, -strs_map, -strs_snoc] at h0)
          exact type_of% h0
        · exact rfl
        intro zK
        clear zK
        refine kk ?_ ?_
        · kernel_rfl
      | simp only [e1, e2, bi_len_s, bne_self_eq_false, Bool.false_eq_true, if_false, decide_true, assignO_list, lenO_list, lenO_tup, getO_list, getO_tup, List.length_map, Bool.true_or, Bool.or_true, Bool.and_self, Bool.true_and, Bool.and_true, eq_self, if_true]
    try with_reducible refine ox_bindI ?_
    repeat with_reducible refine oW_bindI ?_
    refine oW_mono (many_all uw ut (by first | exact Nat.le_trans (by assumption) (by decide) | omega) (by first | exact Nat.le_trans (by assumption) (by decide) | omega) hm1) ?_
    rintro v X1 ⟨hp1, rfl⟩
    have ur1 := pre_at hp1 ur
    have uh1 := pre_at hp1 uh
    have us1 := pre_at hp1 us
    have x11 := pre_at hp1 x1
    have x21 := pre_at hp1 x2
    have t11 := trips_pre hp1 t1
    have t21 := trips_pre hp1 t2
    have hpp1 := hp.trans hp1
    clear ur uw uh ut us x1 x2 t1 t2 hp hp1
    repeat
      first
      | refine kOut ((?_ : KT _ ?_) (kF ?_ ?_))
        rotate_left 2
        · intro h0
          repeat1' ((try rw [exL_x] at h0); simp [xthen_next, xthen_ret, xthen_brk, selB_t, selB_f, puts_nil, puts_cons, exL_e, exS_ifK, storesOk, listAt, tupAt, v1, v2, v3, v4, v5, v6, v7, v8, v9, v10, v11, v12, v13, v14, v15, v16, v17, v18, v19, v20, g1, g2, g3, g4, g5, g6, g7, g8, g9, g10, g11, g12, g13, g14, -exS_if, -Int.natCast_pos, -Int.ofNat_lt, -Int.pred_toNat, -Int.toNat_sub', -Option.some.injEq, -Int.natCast_eq_zero, -Bool.not_not, -Int.zero_add, -Int.add_zero, -Int.zero_sub, -Int.sub_neg, -Int.neg_neg, -Int.sub_zero, -Option.map_bind, -bne_self_eq_false, -List.set_append_right, -List.length_replicate, -List.flatten_replicate_singleton, -Nat.one_mul, -Nat.zero_add, -Option.map_map, -List.getElem?_map, -oX_some, -oW_some, -exL_nil, -decide_eq_true_eq, -Bool.or_eq_true, -Bool.and_eq_true, -bne_iff_ne, -beq_iff_eq, -ne_eq, -List.append_assoc, -ge_iff_le, -Int.ofNat_le, -List.length_append, -List.length_map, -List.map_map, -get_len0, -get_lenS, -ints_map, -strs_map, -strs_snoc] at h0)
          exact type_of% h0
        · exact rfl
        intro zK
        clear zK
        refine kk ?_ ?_
        · kernel_rfl
      | simp only [e1, e2, bi_len_s, bne_self_eq_false, Bool.false_eq_true, if_false, decide_true, assignO_list, lenO_list, lenO_tup, getO_list, getO_tup, List.length_map, Bool.true_or, Bool.or_true, Bool.and_self, Bool.true_and, Bool.and_true, eq_self, if_true]
    try with_reducible refine ox_bindI ?_
    repeat with_reducible refine oW_bindI ?_
    rw [e_comp]
    refine comp_list (k := ksp) (H' := X1) (xs := sp) (f := AV.int) (fun lc => lc "size" = some (.int size)) (fun x => .int x) (fun x => x.fmod size == 0) rfl rfl (by decide +kernel) (by simp [v12, e4]) us1 (by first | exact Nat.le_trans (by assumption) (by decide) | omega) ?_ ?_ ?_
    · simp [compLocals, List.lookup_cons]
    · intro x hx lc hlc
      simp [isVar, compNames, List.lookup_cons, hlc, nsz, nsz']
    have hcnt : ((sp.filter fun x => x.fmod size == 0).length : Int) = cntF sp size := rfl
    have hfl : (sp.filter fun x => x.fmod size == 0).length ≤ 2000 := Nat.le_trans (List.length_filter_le _ _) hspl
    generalize (sp.filter fun x => x.fmod size == 0) = fl at hcnt hfl ⊢
    have sfl : sizeOk fl.length = true := size_le (by first | exact Nat.le_trans (by assumption) (by decide) | omega)
    have ur2 := get_app (G := [AO.list (fl.map fun x => AV.int x)]) ur1
    have uh2 := get_app (G := [AO.list (fl.map fun x => AV.int x)]) uh1
    have x12 := get_app (G := [AO.list (fl.map fun x => AV.int x)]) x11
    have x22 := get_app (G := [AO.list (fl.map fun x => AV.int x)]) x21
    have t12 := trips_pre (pre_app (L := [AO.list (fl.map fun x => AV.int x)]) (List.prefix_rfl (l := X1))) t11
    have t22 := trips_pre (pre_app (L := [AO.list (fl.map fun x => AV.int x)]) (List.prefix_rfl (l := X1))) t21
    have hpp2 := pre_app (L := [AO.list (fl.map fun x => AV.int x)]) hpp1
    have lf := get_len0 (X := X1) (L := [AO.list (fl.map fun x => AV.int x)])
    generalize X1.length = rf at lf ⊢
    generalize X1 ++ [AO.list (fl.map fun x => AV.int x)] = X2 at ur2 uh2 x12 x22 t12 t22 hpp2 lf ⊢
    simp only [List.getElem?_cons_zero] at lf
    clear ur1 uh1 us1 x11 x21 t11 t21 hpp1
    simp [lf, sfl, hcnt]
    repeat
      first
      | refine kOut ((?_ : KT _ ?_) (kF ?_ ?_))
        rotate_left 2
        · intro h0
          repeat1' ((try rw [exL_x] at h0); simp [xthen_next, xthen_ret, xthen_brk, selB_t, selB_f, puts_nil, puts_cons, exL_e, exS_ifK, storesOk, listAt, tupAt, v1, v2, v3, v4, v5, v6, v7, v8, v9, v10, v11, v12, v13, v14, v15, v16, v17, v18, v19, v20, g1, g2, g3, g4, g5, g6, g7, g8, g9, g10, g11, g12, g13, g14, -exS_if, -Int.natCast_pos, -Int.ofNat_lt, -Int.pred_toNat, -Int.toNat_sub', -Option.some.injEq, -Int.natCast_eq_zero, -Bool.not_not, -Int.zero_add, -Int.add_zero, -Int.zero_sub, -Int.sub_neg, -Int.neg_neg, -Int.sub_zero, -Option.map_bind, -bne_self_eq_false, -List.set_append_right, -List.length_replicate, -List.flatten_replicate_singleton, -Nat.one_mul, -Nat.zero_add, -Option.map_map, -List.getElem?_map, -oX_some, -oW_some, -exL_nil, -decide_eq_true_eq, -Bool.or_eq_true, -Bool.and_eq_true, -bne_iff_ne, -beq_iff_eq, -ne_eq, -List.append_assoc, -ge_iff_le, -Int.ofNat_le, -List.length_append, -List.length_map, -List.map_map, -get_len0, -get_lenS, -ints_map, -strs_map, -strs_snoc] at h0)
          exact type_of% h0
        · exact rfl
        intro zK
        clear zK
        refine kk ?_ ?_
        · kernel_rfl
      | simp only [e5, bi_len_s, bne_self_eq_false, Bool.false_eq_true, if_false, decide_true, assignO_list, lenO_list, lenO_tup, getO_list, getO_tup, List.length_map, Bool.true_or, Bool.or_true, Bool.and_self, Bool.true_and, Bool.and_true, eq_self, if_true]
    try with_reducible refine ox_bindI ?_
    repeat with_reducible refine oW_bindI ?_
    refine oW_mono (astray_ok ur2 (by first | exact Nat.le_trans (by assumption) (by decide) | omega) (fun x hx => by have := (lraw x hx).1; omega) (fun x hx => (lraw x hx).2) (by first | exact Nat.le_trans (by assumption) (by decide) | omega) (by first | exact Nat.le_trans (by assumption) (by decide) | omega) (fun k hk => (hm2 k hk).1) (fun k hk => (hm2 k hk).2)) ?_
    rintro v X3 ⟨hp3, rfl⟩
    have uh3 := pre_at hp3 uh2
    have x13 := pre_at hp3 x12
    have x23 := pre_at hp3 x22
    have t13 := trips_pre hp3 t12
    have t23 := trips_pre hp3 t22
    have hpp3 := hpp2.trans hp3
    clear ur2 uh2 x12 x22 t12 t22 hpp2 lf hp3
    refine kOut ((?_ : KT _ ?_) (kF ?_ ?_))
    rotate_left 2
    · intro h0
      repeat1' ((try rw [exL_x] at h0); simp [xthen_next, xthen_ret, xthen_brk, selB_t, selB_f, puts_nil, puts_cons, exL_e, exS_ifK, storesOk, listAt, tupAt, v1, v2, v3, v4, v5, v6, v7, v8, v9, v10, v11, v12, v13, v14, v15, v16, v17, v18, v19, v20, g1, g2, g3, g4, g5, g6, g7, g8, g9, g10, g11, g12, g13, g14, -exS_if, -Int.natCast_pos, -Int.ofNat_lt, -Int.pred_toNat, -Int.toNat_sub', -Option.some.injEq, -Int.natCast_eq_zero, -Bool.not_not, -Int.zero_add, -Int.add_zero, -Int.zero_sub, -Int.sub_neg, -Int.neg_neg, -Int.sub_zero, -Option.map_bind, -bne_self_eq_false, -List.set_append_right, -List.length_replicate, -List.flatten_replicate_singleton, -Nat.one_mul, -Nat.zero_add, -Option.map_map, -List.getElem?_map, -oX_some, -oW_some, -exL_nil, -decide_eq_true_eq, -Bool.or_eq_true, -Bool.and_eq_true, -bne_iff_ne, -beq_iff_eq, -ne_eq, -List.append_assoc, -ge_iff_le, -Int.ofNat_le, -List.length_append, -List.length_map, -List.map_map, -get_len0, -get_lenS, -ints_map, -strs_map, -strs_snoc] at h0)
      exact type_of% h0
    · exact rfl
    intro zK
    clear zK
    refine kk ?_ ?_
    · kernel_rfl
    refine oW_someI ?_
    refine kOut ((?_ : KT _ ?_) (kF ?_ ?_))
    rotate_left 2
    · intro h0
      repeat1' ((try rw [exL_x] at h0); simp [xthen_next, xthen_ret, xthen_brk, selB_t, selB_f, puts_nil, puts_cons, exL_e, exS_ifK, storesOk, listAt, tupAt, v1, v2, v3, v4, v5, v6, v7, v8, v9, v10, v11, v12, v13, v14, v15, v16, v17, v18, v19, v20, g1, g2, g3, g4, g5, g6, g7, g8, g9, g10, g11, g12, g13, g14, -exS_if, -Int.natCast_pos, -Int.ofNat_lt, -Int.pred_toNat, -Int.toNat_sub', -Option.some.injEq, -Int.natCast_eq_zero, -Bool.not_not, -Int.zero_add, -Int.add_zero, -Int.zero_sub, -Int.sub_neg, -Int.neg_neg, -Int.sub_zero, -Option.map_bind, -bne_self_eq_false, -List.set_append_right, -List.length_replicate, -List.flatten_replicate_singleton, -Nat.one_mul, -Nat.zero_add, -Option.map_map, -List.getElem?_map, -oX_some, -oW_some, -exL_nil, -decide_eq_true_eq, -Bool.or_eq_true, -Bool.and_eq_true, -bne_iff_ne, -beq_iff_eq, -ne_eq, -List.append_assoc, -ge_iff_le, -Int.ofNat_le, -List.length_append, -List.length_map, -List.map_map, -get_len0, -get_lenS, -ints_map, -strs_map, -strs_snoc] at h0)
      exact type_of% h0
    · exact rfl
    intro zK
    clear zK
    refine kk ?_ ?_
    · kernel_rfl
    try with_reducible refine ox_bindI ?_
    repeat with_reducible refine oW_bindI ?_
    rw [e_comp]
    refine comp_list (k := kho) (H' := X3) (xs := h.h) (f := AV.int) (fun lc => lc "size" = some (.int size)) (fun x => .int ((x.fdiv size + 1) * size)) (fun _ => true) rfl rfl (by decide +kernel) (by simp [v10, e3]) uh3 (by first | exact Nat.le_trans (by assumption) (by decide) | omega) ?_ ?_ ?_
    · simp [compLocals, List.lookup_cons]
    · intro x hx lc hlc
      simp [isVar, compNames, List.lookup_cons, hlc, nsz, nsz', ssz]
    rw [List.filter_eq_self.mpr (fun _ _ => rfl), show (h.h.map fun (x : Int) => AV.int ((x.fdiv (size : Int) + 1) * (size : Int))) = (h.h.map fun (x : Int) => (x.fdiv (size : Int) + 1) * (size : Int)).map AV.int by simp]
    have hfar : total (h.h.map fun (x : Int) => (x.fdiv (size : Int) + 1) * (size : Int)) = farF h.h size := rfl
    generalize (h.h.map fun (x : Int) => (x.fdiv (size : Int) + 1) * (size : Int)) = fx at hfar ⊢
    have uh4 := get_app (G := [AO.list (fx.map AV.int)]) uh3
    have x14 := get_app (G := [AO.list (fx.map AV.int)]) x13
    have x24 := get_app (G := [AO.list (fx.map AV.int)]) x23
    have t14 := trips_pre (pre_app (L := [AO.list (fx.map AV.int)]) (List.prefix_rfl (l := X3))) t13
    have t24 := trips_pre (pre_app (L := [AO.list (fx.map AV.int)]) (List.prefix_rfl (l := X3))) t23
    have hpp4 := pre_app (L := [AO.list (fx.map AV.int)]) hpp3
    have lf := get_len0 (X := X3) (L := [AO.list (fx.map AV.int)])
    generalize X3.length = rf2 at lf ⊢
    generalize X3 ++ [AO.list (fx.map AV.int)] = X4 at uh4 x14 x24 t14 t24 hpp4 lf ⊢
    simp only [List.getElem?_cons_zero] at lf
    clear uh3 x13 x23 t13 t23 hpp3
    repeat
      first
      | refine kOut ((?_ : KT _ ?_) (kF ?_ ?_))
        rotate_left 2
        · intro h0
          repeat1' ((try rw [exL_x] at h0); simp [xthen_next, xthen_ret, xthen_brk, selB_t, selB_f, puts_nil, puts_cons, exL_e, exS_ifK, storesOk, listAt, tupAt, v1, v2, v3, v4, v5, v6, v7, v8, v9, v10, v11, v12, v13, v14, v15, v16, v17, v18, v19, v20, g1, g2, g3, g4, g5, g6, g7, g8, g9, g10, g11, g12, g13, g14, -exS_if, -Int.natCast_pos, -Int.ofNat_lt, -Int.pred_toNat, -Int.toNat_sub', -Option.some.injEq, -Int.natCast_eq_zero, -Bool.not_not, -Int.zero_add, -Int.add_zero, -Int.zero_sub, -Int.sub_neg, -Int.neg_neg, -Int.sub_zero, -Option.map_bind, -bne_self_eq_false, -List.set_append_right, -List.length_replicate, -List.flatten_replicate_singleton, -Nat.one_mul, -Nat.zero_add, -Option.map_map, -List.getElem?_map, -oX_some, -oW_some, -exL_nil, -decide_eq_true_eq, -Bool.or_eq_true, -Bool.and_eq_true, -bne_iff_ne, -beq_iff_eq, -ne_eq, -List.append_assoc, -ge_iff_le, -Int.ofNat_le, -List.length_append, -List.length_map, -List.map_map, -get_len0, -get_lenS, -ints_map, -strs_map, -strs_snoc] at h0)
          exact type_of% h0
        · exact rfl
        intro zK
        clear zK
        refine kk ?_ ?_
        · kernel_rfl
      | simp only [oW_some, lf, ints_map, Option.map_some, hfar, ssz, bi_len_s, bne_self_eq_false, Bool.false_eq_true, if_false, decide_true, assignO_list, lenO_list, lenO_tup, getO_list, getO_tup, List.length_map, Bool.true_or, Bool.or_true, Bool.and_self, Bool.true_and, Bool.and_true, eq_self, if_true]
    have hw1 : wS h.h sp i size = if farF h.h size ≠ farF h.h size - cntF sp size * size then [((size : Int), farF h.h size, farF h.h size - cntF sp size * size)] else [] := rfl
    have hw2 : mS h.h sp i size = if farF h.h size ≠ farF h.h size - cntF sp size * size + 1 then [((size : Int), farF h.h size, farF h.h size - cntF sp size * size + 1)] else [] := rfl
    rw [hw1, hw2] at hN
    generalize farF h.h size = far at hN ⊢
    generalize far - cntF sp size * size = near at hN ⊢
    have sk1 : sizeOk (kws.length + 1) = true := size_le (by first | exact Nat.le_trans (by assumption) (by decide) | omega)
    have sk2 : sizeOk (kms.length + 1) = true := size_le (by first | exact Nat.le_trans (by assumption) (by decide) | omega)
    refine xthen_cut (fun l X => LawJ X12 kw kta kho ksp kr (Q1 ++ if far ≠ near then [((size : Int), far, near)] else []) Q2 l X ∧ LawT size far near l) (fun P'' hQ => ?_) ?_
    · clear hN
      by_cases hx : far = near
      · rw [show (far != near) = false from by simp [hx]]
        refine kOut ((?_ : KT _ ?_) (kF ?_ ?_))
        rotate_left 2
        · intro h0
          repeat1' ((try rw [exL_x] at h0); simp [xthen_next, xthen_ret, xthen_brk, selB_t, selB_f, puts_nil, puts_cons, exL_e, exS_ifK, storesOk, listAt, tupAt, v1, v2, v3, v4, v5, v6, v7, v8, v9, v10, v11, v12, v13, v14, v15, v16, v17, v18, v19, v20, g1, g2, g3, g4, g5, g6, g7, g8, g9, g10, g11, g12, g13, g14, -exS_if, -Int.natCast_pos, -Int.ofNat_lt, -Int.pred_toNat, -Int.toNat_sub', -Option.some.injEq, -Int.natCast_eq_zero, -Bool.not_not, -Int.zero_add, -Int.add_zero, -Int.zero_sub, -Int.sub_neg, -Int.neg_neg, -Int.sub_zero, -Option.map_bind, -bne_self_eq_false, -List.set_append_right, -List.length_replicate, -List.flatten_replicate_singleton, -Nat.one_mul, -Nat.zero_add, -Option.map_map, -List.getElem?_map, -oX_some, -oW_some, -exL_nil, -decide_eq_true_eq, -Bool.or_eq_true, -Bool.and_eq_true, -bne_iff_ne, -beq_iff_eq, -ne_eq, -List.append_assoc, -ge_iff_le, -Int.ofNat_le, -List.length_append, -List.length_map, -List.map_map, -get_len0, -get_lenS, -ints_map, -strs_map, -strs_snoc] at h0)
          exact type_of% h0
        · exact rfl
        intro zK
        clear zK
        refine kk ?_ ?_
        · kernel_rfl
        refine ox_nil (hQ _ _ ⟨lawJ_of rw' rm kws kms ⟨by kernel_rfl, by kernel_rfl, by kernel_rfl, by kernel_rfl, by kernel_rfl, by kernel_rfl, by kernel_rfl, hpp4, hw, hmr, hn, x14, x24, ?_, t24⟩, ⟨by kernel_rfl, by kernel_rfl, by kernel_rfl⟩⟩)
        rw [if_neg (fun h => h hx), List.append_nil]
        exact t14
      · rw [show (far != near) = true from by simp [hx]]
        repeat
          first
          | refine kOut ((?_ : KT _ ?_) (kF ?_ ?_))
            rotate_left 2
            · intro h0
              repeat1' ((try rw [exL_x] at h0); simp [xthen_next, xthen_ret, xthen_brk, selB_t, selB_f, puts_nil, puts_cons, exL_e, exS_ifK, storesOk, listAt, tupAt, v1, v2, v3, v4, v5, v6, v7, v8, v9, v10, v11, v12, v13, v14, v15, v16, v17, v18, v19, v20, g1, g2, g3, g4, g5, g6, g7, g8, g9, g10, g11, g12, g13, g14, -exS_if, -Int.natCast_pos, -Int.ofNat_lt, -Int.pred_toNat, -Int.toNat_sub', -Option.some.injEq, -Int.natCast_eq_zero, -Bool.not_not, -Int.zero_add, -Int.add_zero, -Int.zero_sub, -Int.sub_neg, -Int.neg_neg, -Int.sub_zero, -Option.map_bind, -bne_self_eq_false, -List.set_append_right, -List.length_replicate, -List.flatten_replicate_singleton, -Nat.one_mul, -Nat.zero_add, -Option.map_map, -List.getElem?_map, -oX_some, -oW_some, -exL_nil, -decide_eq_true_eq, -Bool.or_eq_true, -Bool.and_eq_true, -bne_iff_ne, -beq_iff_eq, -ne_eq, -List.append_assoc, -ge_iff_le, -Int.ofNat_le, -List.length_append, -List.length_map, -List.map_map, -get_len0, -get_lenS, -ints_map, -strs_map, -strs_snoc] at h0)
              exact type_of% h0
            · exact rfl
            intro zK
            clear zK
            refine kk ?_ ?_
            · kernel_rfl
          | simp only [x14, get_app x14, sk1, bi_len_s, bne_self_eq_false, Bool.false_eq_true, if_false, decide_true, assignO_list, lenO_list, lenO_tup, getO_list, getO_tup, List.length_map, Bool.true_or, Bool.or_true, Bool.and_self, Bool.true_and, Bool.and_true, eq_self, if_true]
        have f1 := get_app (G := [tripA (size, far, near)]) x14
        have f2 := trips_pre (pre_app (L := [tripA (size, far, near)]) (List.prefix_rfl (l := X4))) t14
        have f2' := trips_pre (pre_app (L := [tripA (size, far, near)]) (List.prefix_rfl (l := X4))) t24
        have f3 : (X4 ++ [tripA (size, far, near)])[X4.length]? = some (tripA (size, far, near)) := by simp
        have f4 := pre_app (L := [tripA (size, far, near)]) hpp4
        have f5 := get_app (G := [tripA (size, far, near)]) x24
        refine ox_nil (hQ _ _ ⟨lawJ_of rw' rm (kws ++ [X4.length]) kms ⟨by kernel_rfl, by kernel_rfl, by kernel_rfl, by kernel_rfl, by kernel_rfl, by kernel_rfl, by kernel_rfl, pre_set f4 hw, hw, hmr, hn, ?_, ?_, ?_, ?_⟩, ⟨by kernel_rfl, by kernel_rfl, by kernel_rfl⟩⟩)
        · rw [set_get (show (X4 ++ [AO.tup [AV.int size, AV.int far, AV.int near]])[rw']? = _ from f1)]; simp
        · rw [List.getElem?_set_ne hn]; exact f5
        · rw [if_pos hx]; exact trips_set f1 (trips_snoc f3 _ _ f2)
        · exact trips_set f1 f2'
    · generalize (Q1 ++ if far ≠ near then [((size : Int), far, near)] else []) = Q3 at hN ⊢
      clear e1 e2 e3 e4 e5 e6 e7 hpp4 hw hmr hn x14 x24 t14 t24 sk1 sk2 uh4 lf hkl1 hkl2
      rintro l X ⟨⟨rw2, rm2, kws2, kms2, e1, e2, e3, e4, e5, e6, e7, hp, hw, hmr, hn, x1, x2, t1, t2⟩, e8, e9, e10⟩
      have hkl2 := trips_len _ _ t2
      have sk2 : sizeOk (kms2.length + 1) = true := size_le (by first | exact Nat.le_trans (by assumption) (by decide) | omega)
      have hl := puts_eq (l := l) [("moved", _), ("size", _), ("far", _), ("near", _)] ⟨e7, e8, e9, e10, trivial⟩
      rw [hl]
      refine kOut ((?_ : KT _ ?_) (kF ?_ ?_))
      rotate_left 2
      · intro h0
        repeat1' ((try rw [exL_x] at h0); simp [xthen_next, xthen_ret, xthen_brk, selB_t, selB_f, puts_nil, puts_cons, exL_e, exS_ifK, storesOk, listAt, tupAt, v1, v2, v3, v4, v5, v6, v7, v8, v9, v10, v11, v12, v13, v14, v15, v16, v17, v18, v19, v20, g1, g2, g3, g4, g5, g6, g7, g8, g9, g10, g11, g12, g13, g14, -exS_if, -Int.natCast_pos, -Int.ofNat_lt, -Int.pred_toNat, -Int.toNat_sub', -Option.some.injEq, -Int.natCast_eq_zero, -Bool.not_not, -Int.zero_add, -Int.add_zero, -Int.zero_sub, -Int.sub_neg, -Int.neg_neg, -Int.sub_zero, -Option.map_bind, -bne_self_eq_false, -List.set_append_right, -List.length_replicate, -List.flatten_replicate_singleton, -Nat.one_mul, -Nat.zero_add, -Option.map_map, -List.getElem?_map, -oX_some, -oW_some, -exL_nil, -decide_eq_true_eq, -Bool.or_eq_true, -Bool.and_eq_true, -bne_iff_ne, -beq_iff_eq, -ne_eq, -List.append_assoc, -ge_iff_le, -Int.ofNat_le, -List.length_append, -List.length_map, -List.map_map, -get_len0, -get_lenS, -ints_map, -strs_map, -strs_snoc] at h0)
        exact type_of% h0
      · exact rfl
      intro zK
      clear zK
      refine kk ?_ ?_
      · kernel_rfl
      by_cases hx : far = near + 1
      · rw [show (far != near + 1) = false from by simp [hx]]
        refine kOut ((?_ : KT _ ?_) (kF ?_ ?_))
        rotate_left 2
        · intro h0
          repeat1' ((try rw [exL_x] at h0); simp [xthen_next, xthen_ret, xthen_brk, selB_t, selB_f, puts_nil, puts_cons, exL_e, exS_ifK, storesOk, listAt, tupAt, v1, v2, v3, v4, v5, v6, v7, v8, v9, v10, v11, v12, v13, v14, v15, v16, v17, v18, v19, v20, g1, g2, g3, g4, g5, g6, g7, g8, g9, g10, g11, g12, g13, g14, -exS_if, -Int.natCast_pos, -Int.ofNat_lt, -Int.pred_toNat, -Int.toNat_sub', -Option.some.injEq, -Int.natCast_eq_zero, -Bool.not_not, -Int.zero_add, -Int.add_zero, -Int.zero_sub, -Int.sub_neg, -Int.neg_neg, -Int.sub_zero, -Option.map_bind, -bne_self_eq_false, -List.set_append_right, -List.length_replicate, -List.flatten_replicate_singleton, -Nat.one_mul, -Nat.zero_add, -Option.map_map, -List.getElem?_map, -oX_some, -oW_some, -exL_nil, -decide_eq_true_eq, -Bool.or_eq_true, -Bool.and_eq_true, -bne_iff_ne, -beq_iff_eq, -ne_eq, -List.append_assoc, -ge_iff_le, -Int.ofNat_le, -List.length_append, -List.length_map, -List.map_map, -get_len0, -get_lenS, -ints_map, -strs_map, -strs_snoc] at h0)
          exact type_of% h0
        · exact rfl
        intro zK
        clear zK
        refine kk ?_ ?_
        · kernel_rfl
        show oX (some (.next, puts l [("moved", _), ("size", _), ("far", _), ("near", _)], X)) P'
        rw [← hl]
        refine ox_nil (hN _ _ (lawJ_of rw2 rm2 kws2 kms2 ⟨e1, e2, e3, e4, e5, e6, e7, hp, hw, hmr, hn, x1, x2, t1, ?_⟩))
        rw [if_neg (fun h => h hx), List.append_nil]
        exact t2
      · rw [show (far != near + 1) = true from by simp [hx]]
        repeat
          first
          | refine kOut ((?_ : KT _ ?_) (kF ?_ ?_))
            rotate_left 2
            · intro h0
              repeat1' ((try rw [exL_x] at h0); simp [xthen_next, xthen_ret, xthen_brk, selB_t, selB_f, puts_nil, puts_cons, exL_e, exS_ifK, storesOk, listAt, tupAt, v1, v2, v3, v4, v5, v6, v7, v8, v9, v10, v11, v12, v13, v14, v15, v16, v17, v18, v19, v20, g1, g2, g3, g4, g5, g6, g7, g8, g9, g10, g11, g12, g13, g14, -exS_if, -Int.natCast_pos, -Int.ofNat_lt, -Int.pred_toNat, -Int.toNat_sub', -Option.some.injEq, -Int.natCast_eq_zero, -Bool.not_not, -Int.zero_add, -Int.add_zero, -Int.zero_sub, -Int.sub_neg, -Int.neg_neg, -Int.sub_zero, -Option.map_bind, -bne_self_eq_false, -List.set_append_right, -List.length_replicate, -List.flatten_replicate_singleton, -Nat.one_mul, -Nat.zero_add, -Option.map_map, -List.getElem?_map, -oX_some, -oW_some, -exL_nil, -decide_eq_true_eq, -Bool.or_eq_true, -Bool.and_eq_true, -bne_iff_ne, -beq_iff_eq, -ne_eq, -List.append_assoc, -ge_iff_le, -Int.ofNat_le, -List.length_append, -List.length_map, -List.map_map, -get_len0, -get_lenS, -ints_map, -strs_map, -strs_snoc] at h0)
              exact type_of% h0
            · exact rfl
            intro zK
            clear zK
            refine kk ?_ ?_
            · kernel_rfl
          | simp only [x2, get_app x2, sk2, bi_len_s, bne_self_eq_false, Bool.false_eq_true, if_false, decide_true, assignO_list, lenO_list, lenO_tup, getO_list, getO_tup, List.length_map, Bool.true_or, Bool.or_true, Bool.and_self, Bool.true_and, Bool.and_true, eq_self, if_true]
        show oX (some (.next, puts l [("moved", _), ("size", _), ("far", _), ("near", _)], _)) P'
        rw [← hl]
        have f1 := get_app (G := [tripA (size, far, near + 1)]) x2
        have f2 := trips_pre (pre_app (L := [tripA (size, far, near + 1)]) (List.prefix_rfl (l := X))) t2
        have f2' := trips_pre (pre_app (L := [tripA (size, far, near + 1)]) (List.prefix_rfl (l := X))) t1
        have f3 : (X ++ [tripA (size, far, near + 1)])[X.length]? = some (tripA (size, far, near + 1)) := by simp
        have f4 := pre_app (L := [tripA (size, far, near + 1)]) hp
        have f5 := get_app (G := [tripA (size, far, near + 1)]) x1
        refine ox_nil (hN _ _ (lawJ_of rw2 rm2 kws2 (kms2 ++ [X.length]) ⟨e1, e2, e3, e4, e5, e6, e7, pre_set f4 hmr, hw, hmr, hn, ?_, ?_, ?_, ?_⟩))
        · rw [List.getElem?_set_ne (Ne.symm hn)]; exact f5
        · rw [set_get (show (X ++ [AO.tup [AV.int size, AV.int far, AV.int (near + 1)]])[rm2]? = _ from f1)]; simp
        · exact trips_set f1 f2'
        · rw [if_pos hx]; exact trips_set f1 (trips_snoc f3 _ _ f2)
  · rintro l X ⟨rw', rm, kws, kms, e1, e2, e3, e4, e5, e6, e7, hp, hw, hmr, hn, x1, x2, t1, t2⟩
    refine ⟨rfl, ?_⟩
    generalize wL h.h sp (mx + 1) = Q1 at t1 hf1
    generalize mL h.h sp (mx + 1) = Q2 at t2 hf2
    have uh := pre_at hp h12
    have o1 : (Str.ofString " ").length = 1 := by decide +kernel
    have o2 : (Str.ofString "\t").length = 1 := by decide +kernel
    have o3 : (Str.ofString "x \t").length = 3 := by decide +kernel
    have o4 : (Str.ofString " x\t").length = 3 := by decide +kernel
    have lw := sumLen_le 21 (h.h.map padS) (by
      intro y hy
      refine hide fun hG hF => ?_
      obtain ⟨x, hx, rfl⟩ := List.mem_map.mp hy
      refine hF ?_
      clear hF hG
      have := hhb2 x hx
      rw [padS_len]; omega)
    have ls := sumLen_le 21 (h.h.map fun x => padS (x - 1)) (by
      intro y hy
      refine hide fun hG hF => ?_
      obtain ⟨x, hx, rfl⟩ := List.mem_map.mp hy
      refine hF ?_
      clear hF hG
      have := hhb2 x hx
      rw [padS_len]; omega)
    rw [List.length_map] at lw ls
    dsimp only
    refine kOut ((?_ : KT _ ?_) (kF ?_ ?_))
    rotate_left 2
    · intro h0
      repeat1' ((try rw [exL_x] at h0); simp [xthen_next, xthen_ret, xthen_brk, selB_t, selB_f, puts_nil, puts_cons, exL_e, exS_ifK, storesOk, listAt, tupAt, v1, v2, v3, v4, v5, v6, v7, v8, v9, v10, v11, v12, v13, v14, v15, v16, v17, v18, v19, v20, g1, g2, g3, g4, g5, g6, g7, g8, g9, g10, g11, g12, g13, g14, -exS_if, -Int.natCast_pos, -Int.ofNat_lt, -Int.pred_toNat, -Int.toNat_sub', -Option.some.injEq, -Int.natCast_eq_zero, -Bool.not_not, -Int.zero_add, -Int.add_zero, -Int.zero_sub, -Int.sub_neg, -Int.neg_neg, -Int.sub_zero, -Option.map_bind, -bne_self_eq_false, -List.set_append_right, -List.length_replicate, -List.flatten_replicate_singleton, -Nat.one_mul, -Nat.zero_add, -Option.map_map, -List.getElem?_map, -oX_some, -oW_some, -exL_nil, -decide_eq_true_eq, -Bool.or_eq_true, -Bool.and_eq_true, -bne_iff_ne, -beq_iff_eq, -ne_eq, -List.append_assoc, -ge_iff_le, -Int.ofNat_le, -List.length_append, -List.length_map, -List.map_map, -get_len0, -get_lenS, -ints_map, -strs_map, -strs_snoc] at h0)
      exact type_of% h0
    · exact rfl
    intro zK
    clear zK
    refine kk ?_ ?_
    · kernel_rfl
    try with_reducible refine ox_bindI ?_
    repeat with_reducible refine oW_bindI ?_
    rw [e_comp]
    refine comp_list (k := kho) (H' := X) (xs := h.h) (f := AV.int) (fun _ => True) (fun x => .str (padS x)) (fun _ => true) rfl rfl (by decide +kernel) (by simp [v10, e3]) uh (by first | exact Nat.le_trans (by assumption) (by decide) | omega) trivial ?_ ?_
    · intro x hx lc hlc
      have hx2 := hhb2 x hx
      have z1 : sizeOk x.toNat = true := size_le (by first | exact Nat.le_trans (by assumption) (by decide) | omega)
      have z2 : sizeOk (x.toNat + 1) = true := size_le (by first | exact Nat.le_trans (by assumption) (by decide) | omega)
      have z3 : small x = true := small_lit (by first | exact Nat.le_trans (by assumption) (by decide) | omega) (by first | exact Nat.le_trans (by assumption) (by decide) | omega)
      have z4 : (mulS (Str.ofString " ") x).length = x.toNat := mulS_len1 o1 x
      simp [isVar, compNames, List.lookup_cons, o1, o2, z1, z2, z3, z4, padS]
    rw [List.filter_eq_self.mpr (fun _ _ => rfl), show (h.h.map fun x => AV.str (padS x)) = (h.h.map padS).map AV.str by simp]
    have jl1 := get_len0 (X := X) (L := [AO.list ((h.h.map padS).map AV.str)])
    have jp1 := pre_app (L := [AO.list ((h.h.map padS).map AV.str)]) (List.prefix_rfl (l := X))
    generalize X.length = kj at jl1 ⊢
    generalize X ++ [AO.list ((h.h.map padS).map AV.str)] = Xa at jl1 jp1 ⊢
    simp only [List.getElem?_cons_zero] at jl1
    have sj1 : sizeOk (sumLen (h.h.map padS)) = true := size_le (by first | exact Nat.le_trans (by assumption) (by decide) | omega)
    have sj2 : sizeOk (sumLen (h.h.map padS) + 3) = true := size_le (by first | exact Nat.le_trans (by assumption) (by decide) | omega)
    have hwS : joinS (h.h.map padS) = wholeS h.h := rfl
    have lwS : (wholeS h.h).length = sumLen (h.h.map padS) := by rw [← hwS, joinS_len]
    simp [listAt, jl1, sj1, sj2, hwS, lwS, o3, strs_map, -List.map_map]
    refine call_ws ?_
    refine oW_mono (init_ok (by rw [len_app, lwS, o3]; omega)) ?_
    rintro v Xb ⟨rfl, hpb, wb⟩
    rw [hw0] at wb
    refine ⟨rfl, ?_⟩
    generalize Xa.length + 1 = kwh at wb ⊢
    have hpXb := jp1.trans hpb
    have uhb := pre_at hpXb uh
    refine kOut ((?_ : KT _ ?_) (kF ?_ ?_))
    rotate_left 2
    · intro h0
      repeat1' ((try rw [exL_x] at h0); simp [xthen_next, xthen_ret, xthen_brk, selB_t, selB_f, puts_nil, puts_cons, exL_e, exS_ifK, storesOk, listAt, tupAt, v1, v2, v3, v4, v5, v6, v7, v8, v9, v10, v11, v12, v13, v14, v15, v16, v17, v18, v19, v20, g1, g2, g3, g4, g5, g6, g7, g8, g9, g10, g11, g12, g13, g14, -exS_if, -Int.natCast_pos, -Int.ofNat_lt, -Int.pred_toNat, -Int.toNat_sub', -Option.some.injEq, -Int.natCast_eq_zero, -Bool.not_not, -Int.zero_add, -Int.add_zero, -Int.zero_sub, -Int.sub_neg, -Int.neg_neg, -Int.sub_zero, -Option.map_bind, -bne_self_eq_false, -List.set_append_right, -List.length_replicate, -List.flatten_replicate_singleton, -Nat.one_mul, -Nat.zero_add, -Option.map_map, -List.getElem?_map, -oX_some, -oW_some, -exL_nil, -decide_eq_true_eq, -Bool.or_eq_true, -Bool.and_eq_true, -bne_iff_ne, -beq_iff_eq, -ne_eq, -List.append_assoc, -ge_iff_le, -Int.ofNat_le, -List.length_append, -List.length_map, -List.map_map, -get_len0, -get_lenS, -ints_map, -strs_map, -strs_snoc] at h0)
      exact type_of% h0
    · exact rfl
    intro zK
    clear zK
    refine kk ?_ ?_
    · kernel_rfl
    try with_reducible refine ox_bindI ?_
    repeat with_reducible refine oW_bindI ?_
    rw [e_comp]
    refine comp_list (k := kho) (H' := Xb) (xs := h.h) (f := AV.int) (fun _ => True) (fun x => .str (padS (x - 1))) (fun _ => true) rfl rfl (by decide +kernel) (by simp [v10, e3]) uhb (by first | exact Nat.le_trans (by assumption) (by decide) | omega) trivial ?_ ?_
    · intro x hx lc hlc
      have hx2 := hhb2 x hx
      have z1 : sizeOk (x.toNat - 1) = true := size_le (by first | exact Nat.le_trans (by assumption) (by decide) | omega)
      have z2 : sizeOk (x.toNat - 1 + 1) = true := size_le (by first | exact Nat.le_trans (by assumption) (by decide) | omega)
      have z3 : small (x - 1) = true := small_lit (by first | exact Nat.le_trans (by assumption) (by decide) | omega) (by first | exact Nat.le_trans (by assumption) (by decide) | omega)
      have z5 : (x - 1).toNat = x.toNat - 1 := by omega
      have z4 : (mulS (Str.ofString " ") (x - 1)).length = x.toNat - 1 := by rw [mulS_len1 o1]; exact z5
      simp [isVar, compNames, List.lookup_cons, o1, o2, z1, z2, z3, z4, z5, padS]
    rw [List.filter_eq_self.mpr (fun _ _ => rfl), show (h.h.map fun x => AV.str (padS (x - 1))) = (h.h.map fun x => padS (x - 1)).map AV.str by simp]
    have hsS : joinS (h.h.map fun x => padS (x - 1)) = shortS h.h := rfl
    have lsS : (shortS h.h).length = sumLen (h.h.map fun x => padS (x - 1)) := by rw [← hsS, joinS_len]
    generalize (h.h.map fun x => padS (x - 1)) = ys at hsS lsS ls ⊢
    have jl2 := get_len0 (X := Xb) (L := [AO.list (ys.map AV.str)])
    have jp2 := pre_app (L := [AO.list (ys.map AV.str)]) (List.prefix_rfl (l := Xb))
    generalize Xb.length = kj2 at jl2 ⊢
    generalize Xb ++ [AO.list (ys.map AV.str)] = Xc at jl2 jp2 ⊢
    simp only [List.getElem?_cons_zero] at jl2
    have sj3 : sizeOk (sumLen ys) = true := size_le (by first | exact Nat.le_trans (by assumption) (by decide) | omega)
    have sj4 : sizeOk (sumLen ys + 3) = true := size_le (by first | exact Nat.le_trans (by assumption) (by decide) | omega)
    repeat
      first
      | refine kOut ((?_ : KT _ ?_) (kF ?_ ?_))
        rotate_left 2
        · intro h0
          repeat1' ((try rw [exL_x] at h0); simp [xthen_next, xthen_ret, xthen_brk, selB_t, selB_f, puts_nil, puts_cons, exL_e, exS_ifK, storesOk, listAt, tupAt, v1, v2, v3, v4, v5, v6, v7, v8, v9, v10, v11, v12, v13, v14, v15, v16, v17, v18, v19, v20, g1, g2, g3, g4, g5, g6, g7, g8, g9, g10, g11, g12, g13, g14, -exS_if, -Int.natCast_pos, -Int.ofNat_lt, -Int.pred_toNat, -Int.toNat_sub', -Option.some.injEq, -Int.natCast_eq_zero, -Bool.not_not, -Int.zero_add, -Int.add_zero, -Int.zero_sub, -Int.sub_neg, -Int.neg_neg, -Int.sub_zero, -Option.map_bind, -bne_self_eq_false, -List.set_append_right, -List.length_replicate, -List.flatten_replicate_singleton, -Nat.one_mul, -Nat.zero_add, -Option.map_map, -List.getElem?_map, -oX_some, -oW_some, -exL_nil, -decide_eq_true_eq, -Bool.or_eq_true, -Bool.and_eq_true, -bne_iff_ne, -beq_iff_eq, -ne_eq, -List.append_assoc, -ge_iff_le, -Int.ofNat_le, -List.length_append, -List.length_map, -List.map_map, -get_len0, -get_lenS, -ints_map, -strs_map, -strs_snoc] at h0)
          exact type_of% h0
        · exact rfl
        intro zK
        clear zK
        refine kk ?_ ?_
        · kernel_rfl
      | simp only [oW_some, jl2, sj3, hsS, strs_map, -List.map_map, bi_len_s, bne_self_eq_false, Bool.false_eq_true, if_false, decide_true, assignO_list, lenO_list, lenO_tup, getO_list, getO_tup, List.length_map, Bool.true_or, Bool.or_true, Bool.and_self, Bool.true_and, Bool.and_true, eq_self, if_true]
    have wc := wsat_pre jp2 wb
    have hpXc := hpXb.trans jp2
    refine hide fun hG hF => ?_
    obtain ⟨dw, rw3, lw3, q1, q2, q3⟩ := wsat_ref wc
    refine hF ?_
    clear hF hG
    injection q1 with q1
    subst q1
    repeat
      first
      | refine kOut ((?_ : KT _ ?_) (kF ?_ ?_))
        rotate_left 2
        · intro h0
          repeat1' ((try rw [exL_x] at h0); simp [xthen_next, xthen_ret, xthen_brk, selB_t, selB_f, puts_nil, puts_cons, exL_e, exS_ifK, storesOk, listAt, tupAt, v1, v2, v3, v4, v5, v6, v7, v8, v9, v10, v11, v12, v13, v14, v15, v16, v17, v18, v19, v20, g1, g2, g3, g4, g5, g6, g7, g8, g9, g10, g11, g12, g13, g14, -exS_if, -Int.natCast_pos, -Int.ofNat_lt, -Int.pred_toNat, -Int.toNat_sub', -Option.some.injEq, -Int.natCast_eq_zero, -Bool.not_not, -Int.zero_add, -Int.add_zero, -Int.zero_sub, -Int.sub_neg, -Int.neg_neg, -Int.sub_zero, -Option.map_bind, -bne_self_eq_false, -List.set_append_right, -List.length_replicate, -List.flatten_replicate_singleton, -Nat.one_mul, -Nat.zero_add, -Option.map_map, -List.getElem?_map, -oX_some, -oW_some, -exL_nil, -decide_eq_true_eq, -Bool.or_eq_true, -Bool.and_eq_true, -bne_iff_ne, -beq_iff_eq, -ne_eq, -List.append_assoc, -ge_iff_le, -Int.ofNat_le, -List.length_append, -List.length_map, -List.map_map, -get_len0, -get_lenS, -ints_map, -strs_map, -strs_snoc] at h0)
          exact type_of% h0
        · exact rfl
        intro zK
        clear zK
        refine kk ?_ ?_
        · kernel_rfl
      | simp only [oW_some, lsS, o3, sj4, bi_len_s, bne_self_eq_false, Bool.false_eq_true, if_false, decide_true, assignO_list, lenO_list, lenO_tup, getO_list, getO_tup, List.length_map, Bool.true_or, Bool.or_true, Bool.and_self, Bool.true_and, Bool.and_true, eq_self, if_true]
    try with_reducible refine ox_bindI ?_
    repeat with_reducible refine oW_bindI ?_
    refine call_ws ?_
    refine oW_mono (init_ok (by rw [len_app, lsS, o3]; omega)) ?_
    rintro v Xd ⟨rfl, hpd, wd⟩
    rw [hw1] at wd
    refine ⟨rfl, ?_⟩
    have q4 := pre_at hpd q2
    have q5 := pre_at hpd q3
    have wd0 := wsat_pre hpd wc
    generalize Xc.length + 1 = k1 at wd ⊢
    simp [isAttrs, q2, q3, q4, q5]
    refine oW_mono (wit_ok wd0 wd hb0.1 hb1.1 hb0.2 hb1.2) ?_
    rintro v Xe ⟨hpe, kz, ks1, rfl, z1, z2⟩
    rw [hf1] at z2
    have hpXe := hpXc.trans (hpd.trans hpe)
    have y3 := pre_at hpXe x1
    have y4 := pre_at hpXe x2
    have y5 := trips_pre hpXe t1
    have y6 := trips_pre hpXe t2
    have we0 := wsat_pre hpe wd0
    have q6 := pre_at hpe q4
    have q7 := pre_at hpe q5
    simp [e6, (trips_cmp z1 y3 z2 y5).1]
    repeat
      first
      | refine kOut ((?_ : KT _ ?_) (kF ?_ ?_))
        rotate_left 2
        · intro h0
          repeat1' ((try rw [exL_x] at h0); simp [xthen_next, xthen_ret, xthen_brk, selB_t, selB_f, puts_nil, puts_cons, exL_e, exS_ifK, storesOk, listAt, tupAt, v1, v2, v3, v4, v5, v6, v7, v8, v9, v10, v11, v12, v13, v14, v15, v16, v17, v18, v19, v20, g1, g2, g3, g4, g5, g6, g7, g8, g9, g10, g11, g12, g13, g14, -exS_if, -Int.natCast_pos, -Int.ofNat_lt, -Int.pred_toNat, -Int.toNat_sub', -Option.some.injEq, -Int.natCast_eq_zero, -Bool.not_not, -Int.zero_add, -Int.add_zero, -Int.zero_sub, -Int.sub_neg, -Int.neg_neg, -Int.sub_zero, -Option.map_bind, -bne_self_eq_false, -List.set_append_right, -List.length_replicate, -List.flatten_replicate_singleton, -Nat.one_mul, -Nat.zero_add, -Option.map_map, -List.getElem?_map, -oX_some, -oW_some, -exL_nil, -decide_eq_true_eq, -Bool.or_eq_true, -Bool.and_eq_true, -bne_iff_ne, -beq_iff_eq, -ne_eq, -List.append_assoc, -ge_iff_le, -Int.ofNat_le, -List.length_append, -List.length_map, -List.map_map, -get_len0, -get_lenS, -ints_map, -strs_map, -strs_snoc] at h0)
          exact type_of% h0
        · exact rfl
        intro zK
        clear zK
        refine kk ?_ ?_
        · kernel_rfl
      | simp only [lsS, o4, sj4, bi_len_s, bne_self_eq_false, Bool.false_eq_true, if_false, decide_true, assignO_list, lenO_list, lenO_tup, getO_list, getO_tup, List.length_map, Bool.true_or, Bool.or_true, Bool.and_self, Bool.true_and, Bool.and_true, eq_self, if_true]
    try with_reducible refine ox_bindI ?_
    repeat with_reducible refine oW_bindI ?_
    refine call_ws ?_
    refine oW_mono (init_ok (by rw [len_app, lsS, o4]; omega)) ?_
    rintro v Xf ⟨rfl, hpf, wf⟩
    rw [hw2] at wf
    refine ⟨rfl, ?_⟩
    have q8 := pre_at hpf q6
    have q9 := pre_at hpf q7
    have wf0 := wsat_pre hpf we0
    generalize Xe.length + 1 = k2 at wf ⊢
    simp [isAttrs, q6, q7, q8, q9]
    refine oW_mono (wit_ok wf0 wf hb0.1 hb2.1 hb0.2 hb2.2) ?_
    rintro v Xg ⟨hpg, kz2, ks2, rfl, z3, z4⟩
    rw [hf2] at z4
    have y7 := pre_at (hpf.trans hpg) y4
    have y8 := trips_pre (hpf.trans hpg) y6
    simp [e7, (trips_cmp z3 y7 z4 y8).2]
    exact ox_ret (hP _ _ _ rfl)
  · exact lawJ_of X12.length (X12.length + 1) [] [] ⟨by simp, by simp, by simp, by simp, by simp, by simp, by simp, pre_app yp, Nat.le_refl _, by omega, by omega, by rw [get_app y1]; rfl, by rw [get_app y2]; rfl, by simp [wL, Trips], by simp [mL, Trips]⟩
end Mine.L
end
section
/-! The paints, and the numbers of all rims. -/
namespace Mine.L
open PySem
set_option maxRecDepth 100000
set_option maxHeartbeats 0
set_option linter.unusedVariables false

noncomputable def paintB (size : Nat) (i : Int) : Bool := decide (paintF i size (quartF size) = some (dueF i size (quartF size))) && decide (paintF i size 0 = some (dueF i size 0))
theorem paints_t : ((List.range 8).all fun s => (List.range 15).all fun (i : Nat) => paintB (s + 1) ((i : Int) - 7)) = true := by decide +kernel
theorem paints {size : Nat} {i : Int} (h1 : 1 ≤ size) (h2 : size ≤ 8) (h3 : -7 ≤ i) (h4 : i ≤ 7) : paintF i size (quartF size) = some (dueF i size (quartF size)) ∧ paintF i size 0 = some (dueF i size 0) := by
  have h := List.all_eq_true.mp paints_t (size - 1) (List.mem_range.mpr (by omega))
  have h := List.all_eq_true.mp h (i + 7).toNat (List.mem_range.mpr (by omega))
  have e1 : size - 1 + 1 = size := by omega
  have e2 : ((i + 7).toNat : Int) - 7 = i := by omega
  rw [e1, e2] at h
  unfold paintB at h
  rw [Bool.and_eq_true, decide_eq_true_eq, decide_eq_true_eq] at h
  exact h
noncomputable def spR (sg : List Bool) (j : Nat) : Nat → List Int
  | 0 => []
  | m + 1 => spR sg j m ++ if sg.getD m false && !(sg.getD j false) then [(j : Int) - (m : Int)] else []
noncomputable def spA (sg : List Bool) : Nat → List Int
  | 0 => []
  | j + 1 => spA sg j ++ spR sg j j
noncomputable def spG (sg : List Bool) : List Int := spA sg sg.length
noncomputable def blk (h : Int) : List Nat := List.replicate h.toNat 32 ++ [9]
noncomputable def w0F (hooks : List Int) : WS := wsG (hooks.flatMap blk ++ [120, 32, 9]) ⟨[], 0, 0, 0⟩
noncomputable def w1F (hooks : List Int) : WS := wsG (hooks.flatMap (fun h => blk (h - 1)) ++ [120, 32, 9]) ⟨[], 0, 0, 0⟩
noncomputable def w2F (hooks : List Int) : WS := wsG (hooks.flatMap (fun h => blk (h - 1)) ++ [32, 120, 9]) ⟨[], 0, 0, 0⟩
noncomputable def manyB (rows : List Int) (tally : List (Int × Int)) (size : Nat) (m : Int) : Bool := match tally with
  | [] => m == 0
  | _ :: _ => match rows with
    | [] => false
    | r0 :: rest => decide (0 ≤ r0) && decide (r0 ≤ 7) && decide (rest.length ≤ 7) && decide (manyF (stopsF (-(rest.length : Int)) r0 fun i => dueF i size (quartF size)) tally (-(rest.length : Int)) = some m)
noncomputable def wsB (w : WS) : Bool := decide (w.count.length ≤ 1000) && decide (w.b ≤ 1000)
noncomputable def tabB (sg : List Bool) : Bool :=
  let rows := rowsF sg
  let h := cellsF rows
  let sp := spG sg
  let mx := (most 1 h.h).toNat
  let w0 := w0F h.h
  let w1 := w1F h.h
  let w2 := w2F h.h
  decide (rows.length ≤ 20) && rows.all (fun x => decide (0 ≤ x ∧ x ≤ 20)) && decide (h.h.length ≤ 30) && h.h.all (fun x => decide (1 ≤ x ∧ x ≤ 20)) && decide (most 1 h.h = (mx : Int)) && decide (mx ≤ 7) && decide (sp.length ≤ 2000) &&
  (List.range (mx + 1)).all (fun i => manyB rows h.t (i + 1) (cntF sp (i + 1))) && wsB w0 && wsB w1 && wsB w2 && decide (witF w0 w1 = wL h.h sp (mx + 1)) && decide (witF w0 w2 = mL h.h sp (mx + 1))
noncomputable def bits : Nat → Nat → List Bool
  | 0, _ => []
  | n + 1, k => (k % 2 == 1) :: bits n (k / 2)
theorem tab6_t : ((List.range 64).all fun k => tabB (bits 6 k)) = true := by decide +kernel
theorem tab7_a : ((List.range 64).all fun k => tabB (bits 7 k)) = true := by decide +kernel
theorem tab7_b : ((List.range 64).all fun k => tabB (bits 7 (64 + k))) = true := by decide +kernel
end Mine.L
end
section
/-! What the tables give. -/
namespace Mine.L
open PySem
set_option maxRecDepth 100000
set_option linter.unusedVariables false

theorem cps_app (a b : Str) : (a ++ b).cps.toList = a.cps.toList ++ b.cps.toList := by
  show (a.cps ++ b.cps).toList = _
  simp
theorem cps_join : ∀ l : List Str, (joinS l).cps.toList = l.flatMap fun s => s.cps.toList
  | [] => rfl
  | x :: r => by
    show (x ++ joinS r).cps.toList = _
    rw [cps_app, cps_join r]; simp
theorem cps_mul (s : Str) (n : Int) : (mulS s n).cps.toList = (List.replicate n.toNat s.cps.toList).flatten := by
  unfold mulS; simp
theorem cps_sp : (Str.ofString " ").cps.toList = [32] := by decide +kernel
theorem cps_tab : (Str.ofString "\t").cps.toList = [9] := by decide +kernel
theorem cps_xst : (Str.ofString "x \t").cps.toList = [120, 32, 9] := by decide +kernel
theorem cps_sxt : (Str.ofString " x\t").cps.toList = [32, 120, 9] := by decide +kernel
theorem cps_pad (h : Int) : (padS h).cps.toList = blk h := by
  unfold padS blk
  rw [cps_app, cps_mul, cps_sp, cps_tab]
  simp
theorem w0_is (hooks : List Int) : wsF (wholeS hooks ++ Str.ofString "x \t") = w0F hooks := by
  unfold wsF w0F wholeS
  rw [cps_app, cps_join, cps_xst, List.flatMap_map]
  simp only [cps_pad]
theorem w1_is (hooks : List Int) : wsF (shortS hooks ++ Str.ofString "x \t") = w1F hooks := by
  unfold wsF w1F shortS
  rw [cps_app, cps_join, cps_xst, List.flatMap_map]
  simp only [cps_pad]
theorem w2_is (hooks : List Int) : wsF (shortS hooks ++ Str.ofString " x\t") = w2F hooks := by
  unfold wsF w2F shortS
  rw [cps_app, cps_join, cps_sxt, List.flatMap_map]
  simp only [cps_pad]
theorem bits_all : ∀ sg : List Bool, ∃ k, k < 2 ^ sg.length ∧ bits sg.length k = sg
  | [] => ⟨0, by simp, rfl⟩
  | b :: r => by
    obtain ⟨k, hk, e⟩ := bits_all r
    refine ⟨(if b then 1 else 0) + 2 * k, ?_, ?_⟩
    · rw [List.length_cons, Nat.pow_succ]
      split <;> omega
    · rw [List.length_cons]
      unfold bits
      congr 1
      · cases b
        · simp
        · simp
      · have : ((if b then 1 else 0) + 2 * k) / 2 = k := by split <;> omega
        rw [this, e]
theorem tab_all {sg : List Bool} (h : sg.length = 6 ∨ sg.length = 7) : tabB sg = true := by
  obtain ⟨k, hk, e⟩ := bits_all sg
  rcases h with h | h
  · rw [h] at hk e
    have := List.all_eq_true.mp tab6_t k (List.mem_range.mpr hk)
    rw [e] at this
    exact this
  · rw [h] at hk e
    by_cases h64 : k < 64
    · have := List.all_eq_true.mp tab7_a k (List.mem_range.mpr h64)
      rw [e] at this
      exact this
    · have := List.all_eq_true.mp tab7_b (k - 64) (List.mem_range.mpr (by simp at hk; omega))
      rw [show 64 + (k - 64) = k by omega, e] at this
      exact this
theorem manyB_ok {rows : List Int} {tally : List (Int × Int)} {size : Nat} {m : Int} (h1 : 1 ≤ size) (h8 : size ≤ 8) (h : manyB rows tally size m = true) : ManyH rows tally size m := by
  unfold manyB at h
  cases tally with
  | nil => exact .inl ⟨rfl, by simpa using h⟩
  | cons t ts =>
    cases rows with
    | nil => cases h
    | cons r0 rest =>
      simp only [Bool.and_eq_true, decide_eq_true_eq] at h
      obtain ⟨⟨⟨a, b⟩, c⟩, d⟩ := h
      exact .inr ⟨r0, rest, rfl, rfl, by omega, a, by omega, fun i hi hj => (paints h1 h8 (by omega) (by omega)).1, (paints h1 h8 (by omega) (by omega)).2, d⟩
theorem wsB_ok {w : WS} (h : wsB w = true) : w.count.length ≤ 1000 ∧ w.b ≤ 1000 := by
  unfold wsB at h
  simpa using h
theorem law_num {ns : List Int} {n : Nat} (hz : ns.length ≤ 63) {ds : List Int} (hd : numsF ns = ds) (hds : ∀ x ∈ ds, 0 ≤ x ∧ x < 8) (hlen : ds.length = 6 ∨ ds.length = 7)
    (hstrip : stripF (joinS (ds.map rawS)) = joinS (ds.map pcsS)) (hpieces : piecesF (joinS (ds.map pcsS)) = ds.map pcsS ++ [Str.ofString ""])
    (hsp : spansF (ds.map rawS) = spG (ds.map opn)) (hast : ∀ size, 1 ≤ size → size ≤ 8 → ∀ k, k < size → (ownF (ds.map rawS) size k).length ≤ 10 ∧ badF (ownF (ds.map rawS) size k) = false) :
    oW (callBy (ev true ns (n + 50)) topBody "law" [.scr] []) fun v H' => v = .bool true := by
  have ht := tab_all (sg := ds.map opn) (by simpa using hlen)
  unfold tabB at ht
  simp only [Bool.and_eq_true, decide_eq_true_eq, List.all_eq_true] at ht
  refine hide fun hG hF => ?_
  obtain ⟨⟨⟨⟨⟨⟨⟨⟨⟨⟨⟨⟨a1, a2⟩, a3⟩, a4⟩, a5⟩, a6⟩, a7⟩, a8⟩, a9⟩, a10⟩, a11⟩, a12⟩, a13⟩ := ht
  refine hF ?_
  clear hF hG
  refine law_ok hz hd hds (by omega) (sg := ds.map opn) rfl (raw := ds.map rawS) (pcs := ds.map pcsS) rfl rfl hstrip hpieces (rows := rowsF (ds.map opn)) rfl a1 a2 (h := cellsF (rowsF (ds.map opn))) rfl a3 a4 (sp := spG (ds.map opn)) hsp
    (mx := (most 1 (cellsF (rowsF (ds.map opn))).h).toNat) a5 (by omega) ?_ a7 (w0_is _) (w1_is _) (w2_is _) (wsB_ok a9) (wsB_ok a10) (wsB_ok a11) a12 a13
  intro size h1 h2
  have h8 := a8 (size - 1) (List.mem_range.mpr (by omega))
  rw [show size - 1 + 1 = size by omega] at h8
  exact ⟨manyB_ok h1 (by omega) h8, hast size h1 (by omega)⟩
end Mine.L
end
section
/-! The texts made of pieces. -/
namespace Mine.L
open PySem
set_option maxRecDepth 100000
set_option linter.unusedVariables false
set_option linter.unusedSimpArgs false

theorem str_ext {a b : Str} (h : a.cps.toList = b.cps.toList) : a = b := by
  obtain ⟨⟨x⟩⟩ := a
  obtain ⟨⟨y⟩⟩ := b
  cases h
  rfl
noncomputable def str (l : List Nat) : Str := ⟨l.toArray⟩
theorem str_one (c : Nat) : (⟨#[c]⟩ : Str) = str [c] := rfl
theorem str_two (c d : Nat) : (⟨#[c, d]⟩ : Str) = str [c, d] := rfl
theorem str_of (s : Str) : s = str s.cps.toList := by obtain ⟨⟨x⟩⟩ := s; rfl
theorem str_inj {a b : List Nat} : (str a = str b) = (a = b) := by
  apply propext
  constructor
  · intro h; injection h with h; injection h
  · intro h; rw [h]
theorem str_q : Str.ofString "\"" = str [34] := by decide +kernel
theorem str_l : Str.ofString "(" = str [40] := by decide +kernel
theorem str_r : Str.ofString ")" = str [41] := by decide +kernel
theorem str_e : Str.ofString "" = str [] := by decide +kernel
noncomputable def sgC (x : Int) : Nat := if opn x then 40 else 41
noncomputable def rawC (x : Int) : List Nat := (rawS x).cps.toList
noncomputable def pcsC (x : Int) : List Nat := (pcsS x).cps.toList
theorem sgC_two (x : Int) : sgC x = 40 ∧ opn x = true ∨ sgC x = 41 ∧ opn x = false := by
  unfold sgC
  cases opn x <;> simp
theorem forms {x : Int} (h0 : 0 ≤ x) (h8 : x < 8) : (rawC x = [sgC x] ∧ pcsC x = [sgC x]) ∨ (rawC x = [34, 40, 34, sgC x] ∧ pcsC x = [sgC x]) ∨ (rawC x = [92, 41, sgC x] ∧ pcsC x = [92, 41, sgC x]) ∨ (rawC x = [92, 92, sgC x] ∧ pcsC x = [92, 92, sgC x]) := by
  rcases res_cases h0 h8 with rfl | rfl | rfl | rfl | rfl | rfl | rfl | rfl <;> decide +kernel
theorem raw_str (x : Int) : rawS x = str (rawC x) := str_of _
theorem pcs_str (x : Int) : pcsS x = str (pcsC x) := str_of _
theorem join_str : ∀ l : List (List Nat), joinS (l.map str) = str l.flatten
  | [] => rfl
  | x :: r => by
    show str x ++ joinS (r.map str) = _
    rw [join_str r]
    exact str_ext (by rw [cps_app]; simp [str])
noncomputable def OKr (xs : List Int) : Prop := ∀ x ∈ xs, 0 ≤ x ∧ x < 8
theorem join_raw (xs : List Int) : joinS (xs.map rawS) = str (xs.flatMap rawC) := by
  rw [show xs.map rawS = (xs.map rawC).map str by rw [List.map_map]; exact List.map_congr_left fun x _ => raw_str x, join_str, List.flatMap_def]
theorem join_pcs (xs : List Int) : joinS (xs.map pcsS) = str (xs.flatMap pcsC) := by
  rw [show xs.map pcsS = (xs.map pcsC).map str by rw [List.map_map]; exact List.map_congr_left fun x _ => pcs_str x, join_str, List.flatMap_def]
theorem cps_str (l : List Nat) : (str l).cps.toList = l := rfl
theorem len_str (l : List Nat) : (str l).length = l.length := rfl

noncomputable def joinC (acc : List Str) : List Nat := (joinS acc).cps.toList
theorem joinC_snoc (acc : List Str) (s : Str) : joinC (acc ++ [s]) = joinC acc ++ s.cps.toList := by
  unfold joinC
  rw [cps_join, cps_join]; simp
theorem pick_mid {cs : List Nat} {a b : Nat} (hab : a ≤ b) (hb : b ≤ cs.length) : pickS (str cs) (some (a : Int)) (some (b : Int)) none = str ((cs.drop a).take (b - a)) := pickS_mid (str cs) hab hb
theorem pick_from {cs : List Nat} {a : Nat} (ha : a ≤ cs.length) : pickS (str cs) (some (a : Int)) none none = str (cs.drop a) := pickS_from (str cs) ha
theorem strip_go (cs : List Nat) : ∀ (xs : List Int) (pre : List Nat) (st : Nat) (acc : List Str), OKr xs → cs = pre ++ xs.flatMap rawC → st ≤ pre.length →
    ∃ (st' : Nat) (acc' : List Str), stripG (str cs) (uF pre.length false (xs.flatMap rawC)) st none acc = ((st' : Int), acc') ∧ st' ≤ cs.length ∧ joinC acc' ++ cs.drop st' = joinC acc ++ pre.drop st ++ xs.flatMap pcsC
  | [], pre, st, acc, ok, hcs, hst => by
    refine ⟨st, acc, rfl, ?_, ?_⟩
    · rw [hcs]; simp; omega
    · rw [hcs]; simp
  | x :: xs, pre, st, acc, ok, hcs, hst => by
    have ok' : OKr xs := fun y hy => ok y (.tail _ hy)
    have hx := ok x (.head _)
    have h2 := sgC_two x
    rcases forms hx.1 hx.2 with ⟨h, h'⟩ | ⟨h, h'⟩ | ⟨h, h'⟩ | ⟨h, h'⟩
    · obtain ⟨st', acc', e1, e2, e3⟩ := strip_go cs xs (pre ++ [sgC x]) st acc ok' (by rw [hcs]; simp [h]) (by simp; omega)
      refine ⟨st', acc', ?_, e2, ?_⟩
      · rw [← e1, List.flatMap_cons, h]
        rcases h2 with ⟨h2, _⟩ | ⟨h2, _⟩ <;> rw [h2] <;> simp [uF, stripG, str_q, str_one, str_two, str_inj]
      · rw [e3, List.drop_append_of_le_length hst, List.flatMap_cons, h']; simp
    · let acc' := if (st : Int) ≠ (pre.length : Int) then acc ++ [str (pre.drop st)] else acc
      obtain ⟨st', acc2, e1, e2, e3⟩ := strip_go cs xs (pre ++ [34, 40, 34, sgC x]) (pre.length + 3) acc' ok' (by rw [hcs]; simp [h]) (by simp)
      have hj : joinC acc' = joinC acc ++ pre.drop st := by
        show joinC (if (st : Int) ≠ (pre.length : Int) then acc ++ [str (pre.drop st)] else acc) = _
        split
        · rw [joinC_snoc]; rfl
        · rename_i hq
          have : st = pre.length := by omega
          subst this
          simp
      have hpk : pickS (str cs) (some (st : Int)) (some (pre.length : Int)) none = str (pre.drop st) := by
        rw [pick_mid hst (by rw [hcs]; simp), hcs, List.drop_append_of_le_length hst]
        congr 1
        rw [List.take_append_of_le_length (by simp)]
        rw [List.take_of_length_le (by simp)]
      refine ⟨st', acc2, ?_, e2, ?_⟩
      · rw [← e1, List.flatMap_cons, h]
        rcases h2 with ⟨h2, _⟩ | ⟨h2, _⟩ <;> rw [h2] <;> simp [uF, stripG, str_q, str_one, str_two, str_inj, hpk, acc'] <;> rfl
      · rw [e3, hj, List.flatMap_cons, h']
        have : (pre ++ [34, 40, 34, sgC x]).drop (pre.length + 3) = [sgC x] := by
          rw [List.drop_append]; simp
        rw [this]; simp
    · obtain ⟨st', acc', e1, e2, e3⟩ := strip_go cs xs (pre ++ [92, 41, sgC x]) st acc ok' (by rw [hcs]; simp [h]) (by simp; omega)
      refine ⟨st', acc', ?_, e2, ?_⟩
      · rw [← e1, List.flatMap_cons, h]
        rcases h2 with ⟨h2, _⟩ | ⟨h2, _⟩ <;> rw [h2] <;> simp [uF, stripG, str_q, str_one, str_two, str_inj]
      · rw [e3, List.drop_append_of_le_length hst, List.flatMap_cons, h']; simp
    · obtain ⟨st', acc', e1, e2, e3⟩ := strip_go cs xs (pre ++ [92, 92, sgC x]) st acc ok' (by rw [hcs]; simp [h]) (by simp; omega)
      refine ⟨st', acc', ?_, e2, ?_⟩
      · rw [← e1, List.flatMap_cons, h]
        rcases h2 with ⟨h2, _⟩ | ⟨h2, _⟩ <;> rw [h2] <;> simp [uF, stripG, str_q, str_one, str_two, str_inj]
      · rw [e3, List.drop_append_of_le_length hst, List.flatMap_cons, h']; simp
theorem inS_q (s : Str) : inS "\"" s = decide (34 ∈ s.cps.toList) := by
  unfold inS
  rw [show Str.ofString "\"" = ⟨#[34]⟩ by decide +kernel]
  exact StrLaws.found_one s 34
theorem no_quote : ∀ xs : List Int, OKr xs → 34 ∉ xs.flatMap rawC → xs.flatMap rawC = xs.flatMap pcsC
  | [], _, _ => rfl
  | x :: xs, ok, hq => by
    have hx := ok x (.head _)
    rw [List.flatMap_cons, List.mem_append, not_or] at hq
    have ih := no_quote xs (fun y hy => ok y (.tail _ hy)) hq.2
    rw [List.flatMap_cons, List.flatMap_cons, ih]
    rcases forms hx.1 hx.2 with ⟨h, h'⟩ | ⟨h, h'⟩ | ⟨h, h'⟩ | ⟨h, h'⟩
    · rw [h, h']
    · exact absurd (by rw [h]; simp) hq.1
    · rw [h, h']
    · rw [h, h']
theorem strip_raw (xs : List Int) (ok : OKr xs) : stripF (joinS (xs.map rawS)) = joinS (xs.map pcsS) := by
  rw [join_raw, join_pcs]
  unfold stripF
  rw [inS_q, cps_str]
  by_cases hq : 34 ∈ xs.flatMap rawC
  · rw [decide_eq_true hq, if_pos rfl]
    refine hide fun hG hF => ?_
    obtain ⟨st', acc', e1, e2, e3⟩ := strip_go (xs.flatMap rawC) xs [] 0 [] ok rfl (Nat.zero_le _)
    refine hF ?_
    clear hF hG
    dsimp only
    have e1' : stripG (str (xs.flatMap rawC)) (uF 0 false (xs.flatMap rawC)) 0 none [] = ((st' : Int), acc') := e1
    rw [e1']
    dsimp only
    apply str_ext
    rw [len_str]
    by_cases hl : (st' : Int) < ((xs.flatMap rawC).length : Int)
    · rw [if_pos hl, pick_from e2]
      have := joinC_snoc acc' (str ((xs.flatMap rawC).drop st'))
      unfold joinC at this e3
      rw [this, cps_str, e3]
      rfl
    · rw [if_neg hl]
      have hd : (xs.flatMap rawC).drop st' = [] := List.drop_of_length_le (by omega)
      rw [hd, List.append_nil] at e3
      exact e3
  · rw [decide_eq_false hq]
    simp only [Bool.false_eq_true, if_false]
    rw [no_quote xs ok hq]
end Mine.L
end
section
/-! Pieces, balance, spans, astray. -/
namespace Mine.L
open PySem
set_option maxRecDepth 100000
set_option linter.unusedVariables false
set_option linter.unusedSimpArgs false

theorem str_app (a b : List Nat) : str a ++ str b = str (a ++ b) := str_ext (by rw [cps_app]; rfl)
theorem pieces_go : ∀ (xs : List Int) (p : Nat) (acc : List Str), OKr xs → piecesG (uF p false (xs.flatMap pcsC)) p (Str.ofString "") acc = acc ++ xs.map pcsS ++ [Str.ofString ""]
  | [], p, acc, ok => by simp [uF, piecesG]
  | x :: xs, p, acc, ok => by
    have ok' : OKr xs := fun y hy => ok y (.tail _ hy)
    have hx := ok x (.head _)
    have h2 := sgC_two x
    have hone : pcsC x = [sgC x] → piecesG (uF p false ((x :: xs).flatMap pcsC)) p (Str.ofString "") acc = acc ++ (x :: xs).map pcsS ++ [Str.ofString ""] := by
      intro h'
      have ih := pieces_go xs (p + 1) (acc ++ [pcsS x]) ok'
      rw [pcs_str x, h', str_e] at ih
      rw [List.flatMap_cons, h', List.map_cons, pcs_str x, h', str_e]
      rcases h2 with ⟨h2, _⟩ | ⟨h2, _⟩ <;> rw [h2] at ih ⊢ <;> simp [uF, piecesG, str_l, str_r, str_e, str_one, str_two, str_inj, len_str, str_app] <;> simpa using ih
    rcases forms hx.1 hx.2 with ⟨h, h'⟩ | ⟨h, h'⟩ | ⟨h, h'⟩ | ⟨h, h'⟩
    · exact hone h'
    · exact hone h'
    · have ih := pieces_go xs (p + 3) (acc ++ [pcsS x]) ok'
      rw [pcs_str x, h', str_e] at ih
      rw [List.flatMap_cons, h', List.map_cons, pcs_str x, h', str_e]
      have a1 : (p : Int) + 1 + 1 = (p : Int) + 2 := by omega
      have a2 : (p : Int) + 1 = (p : Int) + 2 - 1 := by omega
      have a3 : (p : Int) + 2 + 1 = (p : Int) + 3 := by omega
      have a4 : (p : Int) + 2 = (p : Int) + 3 - 1 := by omega
      have a5 : p + 1 + 1 + 1 = p + 3 := by omega
      rcases h2 with ⟨h2, _⟩ | ⟨h2, _⟩ <;> rw [h2] at ih ⊢ <;> simp [uF, piecesG, str_l, str_r, str_e, str_one, str_two, str_inj, len_str, str_app, ← a2, a1, a3, ← a4, a5]
      · simpa using ih
      · simpa using ih
    · have ih := pieces_go xs (p + 3) (acc ++ [pcsS x]) ok'
      rw [pcs_str x, h', str_e] at ih
      rw [List.flatMap_cons, h', List.map_cons, pcs_str x, h', str_e]
      have a1 : (p : Int) + 1 + 1 = (p : Int) + 2 := by omega
      have a2 : (p : Int) + 1 = (p : Int) + 2 - 1 := by omega
      have a3 : (p : Int) + 2 + 1 = (p : Int) + 3 := by omega
      have a4 : (p : Int) + 2 = (p : Int) + 3 - 1 := by omega
      have a5 : p + 1 + 1 + 1 = p + 3 := by omega
      rcases h2 with ⟨h2, _⟩ | ⟨h2, _⟩ <;> rw [h2] at ih ⊢ <;> simp [uF, piecesG, str_l, str_r, str_e, str_one, str_two, str_inj, len_str, str_app, ← a2, a1, a3, ← a4, a5]
      · simpa using ih
      · simpa using ih
theorem pieces_pcs (xs : List Int) (ok : OKr xs) : piecesF (joinS (xs.map pcsS)) = xs.map pcsS ++ [Str.ofString ""] := by
  rw [join_pcs]
  unfold piecesF
  rw [cps_str]
  have := pieces_go xs 0 [] ok
  simpa using this
noncomputable def balS : Int → List Bool → Bool
  | o, [] => o == 0
  | o, true :: r => balS (o + 1) r
  | o, false :: r => if o - 1 < 0 then false else balS (o - 1) r
theorem bal_go : ∀ (xs : List Int) (p : Nat) (o : Int), OKr xs → balG o (uF p false (xs.flatMap pcsC)) = balS o (xs.map opn)
  | [], p, o, ok => rfl
  | x :: xs, p, o, ok => by
    have ok' : OKr xs := fun y hy => ok y (.tail _ hy)
    have hx := ok x (.head _)
    have h2 := sgC_two x
    have i1 := fun p o => bal_go xs p o ok'
    rw [List.flatMap_cons, List.map_cons]
    rcases forms hx.1 hx.2 with ⟨h, h'⟩ | ⟨h, h'⟩ | ⟨h, h'⟩ | ⟨h, h'⟩ <;> rcases h2 with ⟨h2, h3⟩ | ⟨h2, h3⟩ <;> rw [h', h2, h3] <;> simp [uF, balG, balS, str_l, str_r, str_one, str_two, str_inj, i1]
theorem check_raw (xs : List Int) (ok : OKr xs) : checkF (joinS (xs.map rawS)) = balS 0 (xs.map opn) := by
  unfold checkF
  rw [strip_raw xs ok, join_pcs, cps_str]
  exact bal_go xs 0 0 ok
theorem app_join2 (a b : Str) : a ++ b = joinS [a, b] := str_ext (by rw [cps_app, cps_join]; simp)
theorem check_two {x y : Int} (hx : 0 ≤ x ∧ x < 8) (hy : 0 ≤ y ∧ y < 8) : checkF (rawS x ++ rawS y) = (opn x && !opn y) := by
  rw [app_join2]
  have := check_raw [x, y] (by intro z hz; rcases List.mem_cons.mp hz with rfl | hz; exact hx; rcases List.mem_cons.mp hz with rfl | hz; exact hy; cases hz)
  rw [show [x, y].map rawS = [rawS x, rawS y] from rfl] at this
  rw [this]
  cases h1 : opn x <;> cases h2 : opn y <;> simp [balS, h1, h2]
theorem getD_map {α β : Type} (f : α → β) (l : List α) (i : Nat) (h : i < l.length) (d : β) : (l.map f).getD i d = f (l[i]) := by
  rw [List.getD_eq_getElem?_getD, List.getElem?_map, List.getElem?_eq_getElem h]; rfl
theorem spansR_is (ds : List Int) (ok : OKr ds) (j : Nat) (hj : j < ds.length) : ∀ m, m ≤ j → spansR (ds.map rawS) j m = spR (ds.map opn) j m
  | 0, _ => rfl
  | m + 1, hm => by
    unfold spansR spR
    rw [spansR_is ds ok j hj m (by omega)]
    congr 2
    unfold spansB
    rw [getD_map _ _ _ (show m < ds.length by omega), getD_map _ _ _ hj, getD_map _ _ _ (show m < ds.length by omega), getD_map _ _ _ hj]
    exact congrArg (· = true) (check_two (ok _ (List.getElem_mem _)) (ok _ (List.getElem_mem _)))
theorem spansA_is (ds : List Int) (ok : OKr ds) : ∀ j, j ≤ ds.length → spansA (ds.map rawS) j = spA (ds.map opn) j
  | 0, _ => rfl
  | j + 1, hj => by
    unfold spansA spA
    rw [spansA_is ds ok j (by omega), spansR_is ds ok j (by omega) j (Nat.le_refl _)]
theorem spans_is (ds : List Int) (ok : OKr ds) : spansF (ds.map rawS) = spG (ds.map opn) := by
  unfold spansF spG
  rw [List.length_map, List.length_map]
  exact spansA_is ds ok _ (Nat.le_refl _)
end Mine.L
end
section
/-! Nothing is astray. -/
namespace Mine.L
open PySem
set_option maxRecDepth 100000
set_option maxHeartbeats 0
set_option linter.unusedVariables false
set_option linter.unusedSimpArgs false

noncomputable def cB (b : Bool) : Nat := if b then 40 else 41
noncomputable def upG (zs : List Bool) : Nat := ((zs.map cB).filter fun c => (⟨#[c]⟩ : Str) == Str.ofString ")").length
noncomputable def badG (zs : List Bool) : Bool := decide (0 < upG zs) && decide (upG zs < zs.length) && (balS 0 (List.replicate ((upG zs : Nat) - 1 : Int).toNat true ++ zs ++ List.replicate ((zs.length : Int) - (upG zs : Nat) - 1).toNat false) != inS "()" (str (zs.map cB)))
theorem bad_t : ((List.range 8).all fun n => (List.range (2 ^ n)).all fun k => !badG (bits n k)) = true := by decide +kernel
theorem bad_none {zs : List Bool} (h : zs.length ≤ 7) : badG zs = false := by
  obtain ⟨k, hk, e⟩ := bits_all zs
  have h1 := List.all_eq_true.mp bad_t zs.length (List.mem_range.mpr (by omega))
  have h2 := List.all_eq_true.mp h1 k (List.mem_range.mpr hk)
  rw [e] at h2
  simpa using h2
theorem last_raw {x : Int} (h0 : 0 ≤ x) (h8 : x < 8) : lastS (rawS x) = str [cB (opn x)] := by
  have h : lastC (rawS x) = sgC x := by
    unfold lastC
    show (rawC x).getLast?.getD 0 = _
    rcases forms h0 h8 with ⟨h, _⟩ | ⟨h, _⟩ | ⟨h, _⟩ | ⟨h, _⟩ <;> rw [h] <;> rfl
  show str [lastC (rawS x)] = _
  rw [h]
  rfl
theorem plain_is (ys : List Int) (ok : OKr ys) : plainF (ys.map rawS) = str ((ys.map opn).map cB) := by
  unfold plainF
  rw [List.map_map, show ys.map (lastS ∘ rawS) = (ys.map fun x => [cB (opn x)]).map str by
    rw [List.map_map]
    exact List.map_congr_left fun x hx => last_raw (ok x hx).1 (ok x hx).2, join_str]
  congr 1
  induction ys with
  | nil => rfl
  | cons a r ih =>
    have := ih fun y hy => ok y (.tail _ hy)
    rw [List.map_cons, List.flatten_cons, this]
    rfl
theorem mulS_l (n : Int) : mulS (Str.ofString "(") n = joinS ((List.replicate n.toNat (0 : Int)).map rawS) := by
  apply str_ext
  rw [cps_mul, cps_join, List.flatMap_map, show (Str.ofString "(").cps.toList = [40] by decide +kernel]
  generalize n.toNat = m
  induction m with
  | zero => rfl
  | succ m ih =>
    rw [List.replicate_succ, List.replicate_succ, List.flatten_cons, List.flatMap_cons, ih, show (rawS 0).cps.toList = [40] by decide +kernel]
theorem mulS_r (n : Int) : mulS (Str.ofString ")") n = joinS ((List.replicate n.toNat (1 : Int)).map rawS) := by
  apply str_ext
  rw [cps_mul, cps_join, List.flatMap_map, show (Str.ofString ")").cps.toList = [41] by decide +kernel]
  generalize n.toNat = m
  induction m with
  | zero => rfl
  | succ m ih =>
    rw [List.replicate_succ, List.replicate_succ, List.flatten_cons, List.flatMap_cons, ih, show (rawS 1).cps.toList = [41] by decide +kernel]
theorem join_app (a b : List Str) : joinS a ++ joinS b = joinS (a ++ b) := str_ext (by rw [cps_app, cps_join, cps_join, cps_join]; simp)
theorem bad_is (ys : List Int) (ok : OKr ys) : badF (ys.map rawS) = badG (ys.map opn) := by
  have hup : upF (ys.map rawS) = upG (ys.map opn) := by
    unfold upF upG
    rw [plain_is ys ok, cps_str]
  unfold badF badG
  rw [hup, plain_is ys ok, mulS_l, mulS_r, join_app, join_app, ← List.map_append, ← List.map_append, List.length_map, List.length_map]
  generalize hu : upG (ys.map opn) = u
  have ok2 : OKr (List.replicate ((u : Nat) - 1 : Int).toNat 0 ++ ys ++ List.replicate ((ys.length : Int) - (u : Nat) - 1).toNat 1) := by
    intro y hy
    rw [List.mem_append, List.mem_append] at hy
    rcases hy with (hy | hy) | hy
    · rw [(List.mem_replicate.mp hy).2]; decide
    · exact ok y hy
    · rw [(List.mem_replicate.mp hy).2]; decide
  rw [check_raw _ ok2, List.map_append, List.map_append, List.map_replicate, List.map_replicate, show opn 0 = true by decide +kernel, show opn 1 = false by decide +kernel]
theorem idx_t : ([6, 7].all fun n => (List.range 9).all fun size => (List.range 9).all fun k => size == 0 || decide ((sliceRange (sliceBounds (some (k : Int)) none (some (size : Int)) n).1 (sliceBounds (some (k : Int)) none (some (size : Int)) n).2.1 (sliceBounds (some (k : Int)) none (some (size : Int)) n).2.2).length ≤ 7)) = true := by decide +kernel
theorem astray_none (ds : List Int) (ok : OKr ds) (hl : ds.length = 6 ∨ ds.length = 7) (size : Nat) (h1 : 1 ≤ size) (h8 : size ≤ 8) (k : Nat) (hk : k < size) : (ownF (ds.map rawS) size k).length ≤ 10 ∧ badF (ownF (ds.map rawS) size k) = false := by
  have e : ownF (ds.map rawS) size k = (pickL ds (some (k : Int)) none (some (size : Int))).map rawS := pickL_map rawS ds _ _ _
  have hlen : (pickL ds (some (k : Int)) none (some (size : Int))).length ≤ 7 := by
    have hn : ds.length ∈ [6, 7] := by rcases hl with h | h <;> rw [h] <;> simp
    have t1 := List.all_eq_true.mp idx_t ds.length hn
    have t2 := List.all_eq_true.mp t1 size (List.mem_range.mpr (by omega))
    have t3 := List.all_eq_true.mp t2 k (List.mem_range.mpr (by omega))
    rw [Bool.or_eq_true, decide_eq_true_eq, beq_iff_eq] at t3
    unfold pickL
    refine Nat.le_trans (List.length_filterMap_le _ _) ?_
    rcases t3 with t3 | t3
    · omega
    · exact t3
  have oky : OKr (pickL ds (some (k : Int)) none (some (size : Int))) := fun x hx => ok x (pickL_mem hx)
  rw [e]
  generalize pickL ds (some (k : Int)) none (some (size : Int)) = ys at hlen oky
  refine ⟨by rw [List.length_map]; omega, ?_⟩
  rw [bad_is ys oky]
  exact bad_none (by rw [List.length_map]; exact hlen)
theorem numsF_ok (ns : List Int) : OKr (numsF ns) ∧ ((numsF ns).length = 6 ∨ (numsF ns).length = 7) := by
  have h7 : (ns.take 7).length ≤ 7 := by simp; omega
  constructor
  · intro x hx
    unfold numsF at hx
    rw [List.mem_append] at hx
    rcases hx with hx | hx
    · obtain ⟨y, _, rfl⟩ := List.mem_map.mp hx
      exact ⟨Int.fmod_nonneg_of_pos y (by decide), Int.fmod_lt_of_pos y (by decide)⟩
    · have := List.mem_of_mem_drop hx
      simp at this
      omega
  · unfold numsF
    rw [List.length_append, List.length_map, List.length_drop]
    simp only [List.length_cons, List.length_nil]
    omega
theorem law_holds (ns : List Int) (hz : ns.length ≤ 63) : ∃ H, callBy (ev true ns 50) topBody "law" [.scr] [] = some (.bool true, H) := by
  obtain ⟨ok, hl⟩ := numsF_ok ns
  have h := law_num (n := 0) hz (ds := numsF ns) rfl ok hl (strip_raw _ ok) (pieces_pcs _ ok) (spans_is _ ok) (astray_none _ ok hl)
  obtain ⟨v, H, e, rfl⟩ := h
  exact ⟨H, e⟩
end Mine.L
end
section
/-! The relation between the evaluator's state and the model's. -/
namespace Mine
open PySem PySem.Spec PySem.Calls PyProof.Rows

/-- what is fixed: the world, the heap at the law's call, the script's address -/
structure Bs where
  w : World
  h₀ : Heap
  scr : Addr
  ns : List Int
noncomputable abbrev MM (B : Bs) : Model := model Challenge.pw_rl0083_01 B.w

/-- the values of the built-in names that the text reads -/
noncomputable def bTab : List (Str × Value) := [("len", .builtin "len"), ("max", .builtin "max"), ("min", .builtin "min"), ("sum", .builtin "sum"), ("int", .type "int"), ("tuple", .type "tuple"), ("range", .type "range"), ("zip", .type "zip"), ("enumerate", .type "enumerate")]
noncomputable def bval (f : Str) : Option Value := bTab.lookup f
/-- where the text's defs lie, and the class's -/
noncomputable def fTab : List (Str × Addr) := [("hsv_to_rgb", 94), ("_iter_escaped_chars", 101), ("_strip_quoted_realnames", 108), ("_check_parenthesis", 115), ("_law_numbers", 120), ("_law_pieces", 127), ("_law_rows", 134), ("_law_cells", 139), ("_law_paint", 146), ("_law_due", 153), ("_law_many", 158), ("_law_spans", 165), ("_law_astray", 170), ("Whitespace", 83)]
noncomputable def faddr (f : Str) : Option Addr := fTab.lookup f
noncomputable def mTab : List (Str × Addr) := [("__init__", 38), ("longest_run_of_spaces", 45), ("indent_level", 52), ("not_equal_witness", 66)]
noncomputable def maddr (f : Str) : Option Addr := mTab.lookup f
theorem tab_mem {α : Type} {f : Str} {v : α} : ∀ {l : List (Str × α)}, l.lookup f = some v → (f, v) ∈ l
  | [], h => nomatch h
  | (g, u) :: r, h => by
    rw [List.lookup_cons] at h
    cases e : f == g with
    | true => rw [e] at h; obtain rfl := eq_of_beq e; cases h; exact .head _
    | false => rw [e] at h; exact .tail _ (tab_mem h)

/-- a def lies there -/
noncomputable def FnAt (h : Heap) (a : Addr) (ps : List Str) (b : List Stmt) (N : Names) : Prop :=
  ∃ o fd, h.get? a = some o ∧ o.data = .func fd ∧ h.CodeRec fd.code fd.qualname ∧ fd.body = .stmts b ∧ fd.scope.names = N ∧ fd.closure = [] ∧ fd.globals = mainGlobals ∧ fd.builtins = builtinsNs ∧
    fd.scope.kind = .function ∧ fd.scope.isCoroutine = false ∧ fd.scope.isGenerator = false ∧ (∀ vals : List Value, vals.length = ps.length → bindArgs fd ⟨vals, []⟩ = pure (ps.zip vals))
/-- what the written part of the heap says of the class -/
structure KF (K : W.Frag) : Prop where
  makes : W.makesIn K 83 = true
  init : W.findIn K (.ref 83) "__init__" = some (some (.ref 38))
  fn : [38, 45, 52, 66].all (fun a => W.typeIn K (.ref a) == some (.type "function")) = true
  get : W.plainGet K 83 "" = true
  set : W.findIn K (.ref 83) "__setattr__" = some (some (.builtin "object.__setattr__"))
  over : W.plainOver K 83 = true
  dict : W.hasDictIn K 83 = true
  fld : ["raw", "n", "nt", "norm", "is_simple"].all (fun f => W.findIn K (.ref 83) (Str.ofString f) == some none) = true
  mth : [("__init__", 38), ("longest_run_of_spaces", 45), ("indent_level", 52), ("not_equal_witness", 66)].all (fun p => W.findIn K (.ref 83) (Str.ofString p.1) == some (some (.ref p.2))) = true
  reads : W.readsIn K 83 (.type "type") = true
  clsS : (W.findCls K (.ref 83) (.type "type") "S").any (fun f => match f with | .val (.str x _) => x == " " | _ => false) = true
  clsT : (W.findCls K (.ref 83) (.type "type") "T").any (fun f => match f with | .val (.str x _) => x == "\t" | _ => false) = true
  keep : W.keepIn K (.ref 83) = true
structure Gd (B : Bs) : Prop where
  kf : ∃ K : W.Frag, K.In B.h₀ ∧ KF K
  sys : ∃ o, B.h₀.get? sysModules = some o
  nolimit : B.h₀.NoLimit
  scr : ∃ vs : List Value, B.h₀.IsList B.scr vs.toArray ∧ IntsAre vs B.ns
  few : B.ns.length ≤ 63
  gns : ∃ mg mb, B.h₀.Ns mainGlobals mg ∧ B.h₀.Ns builtinsNs mb ∧ (∀ f v, bval f = some v → mg f = none ∧ mb f = some v) ∧ (∀ f a, faddr f = some a → mg f = some (.ref a))
  fn : ∀ f a ps b N, faddr f = some a → defOf f topBody = some (ps, b, N) → FnAt B.h₀ a ps b N
  gen : ∃ o fd b N, genOf topBody = some (b, N) ∧ B.h₀.get? 101 = some o ∧ o.data = .func fd ∧ B.h₀.CodeRec fd.code fd.qualname ∧ fd.body = .stmts b ∧ fd.scope.names = N ∧ fd.closure = [] ∧ fd.globals = mainGlobals ∧ fd.builtins = builtinsNs ∧
    fd.scope.kind = .function ∧ fd.scope.isCoroutine = false ∧ fd.scope.isGenerator = true ∧ (∀ v : Value, bindArgs fd ⟨[v], []⟩ = pure [(Str.ofString "addr", v)])
  mt : ∀ f a ps b N, maddr f = some a → defOf f (classBody topBody) = some (ps, b, N) → FnAt B.h₀ a ps b N

inductive VR (B : Bs) (ρ : List Addr) : AV → Value → Prop where
  | none : VR B ρ .none .none
  | bool (b : Bool) : VR B ρ (.bool b) (.bool b)
  | int (i : Int) (t : Tok) : VR B ρ (.int i) (.int i t)
  | flt (x : UInt64) (t : Tok) : VR B ρ (.flt x) (.float x t)
  | str (x : Str) (t : Tok) : VR B ρ (.str x) (.str x t)
  | ref {k : Nat} {a : Addr} (h : ρ[k]? = some a) : VR B ρ (.ref k) (.ref a)
  | scr : VR B ρ .scr (.ref B.scr)
inductive VRs (B : Bs) (ρ : List Addr) : List AV → List Value → Prop where
  | nil : VRs B ρ [] []
  | cons {a : AV} {v : Value} {l : List AV} {vs : List Value} : VR B ρ a v → VRs B ρ l vs → VRs B ρ (a :: l) (v :: vs)
inductive DRs : List (Int × Int) → List (Int × Value) → Prop where
  | nil : DRs [] []
  | cons {k v : Int} {u : Tok} {l : List (Int × Int)} {kvs : List (Int × Value)} : DRs l kvs → DRs ((k, v) :: l) ((k, .int v u) :: kvs)
inductive ARs (B : Bs) (ρ : List Addr) : List (Str × AV) → List DictEntry → Prop where
  | nil : ARs B ρ [] []
  | cons {x : Str} {v : AV} {u : Value} {t : Tok} {l : List (Str × AV)} {es : List DictEntry} : VR B ρ v u → ARs B ρ l es → ARs B ρ ((x, v) :: l) (⟨PyData.keyHash B.w.params x, .str x t, u⟩ :: es)

section
variable {B : Bs} {ρ : List Addr} {P : Value → Prop} {u : Value}
@[elab_as_elim] theorem VR.noneE (r : VR B ρ .none u) (g : P .none) : P u := by cases r; exact g
@[elab_as_elim] theorem VR.boolE {b : Bool} (r : VR B ρ (.bool b) u) (g : P (.bool b)) : P u := by cases r; exact g
@[elab_as_elim] theorem VR.intE {i : Int} (r : VR B ρ (.int i) u) (g : ∀ t, P (.int i t)) : P u := by cases r; exact g _
@[elab_as_elim] theorem VR.fltE {x : UInt64} (r : VR B ρ (.flt x) u) (g : ∀ t, P (.float x t)) : P u := by cases r; exact g _
@[elab_as_elim] theorem VR.strE {x : Str} (r : VR B ρ (.str x) u) (g : ∀ t, P (.str x t)) : P u := by cases r; exact g _
@[elab_as_elim] theorem VR.refE {k : Nat} (r : VR B ρ (.ref k) u) (g : ∀ a, ρ[k]? = some a → P (.ref a)) : P u := by cases r; exact g _ (by assumption)
@[elab_as_elim] theorem VRs.nilE {P : List Value → Prop} {us : List Value} (r : VRs B ρ [] us) (g : P []) : P us := by cases r; exact g
@[elab_as_elim] theorem VRs.consE {P : List Value → Prop} {us : List Value} {a : AV} {l : List AV} (r : VRs B ρ (a :: l) us) (g : ∀ v vs, VR B ρ a v → VRs B ρ l vs → P (v :: vs)) : P us := by cases r; exact g _ _ (by assumption) (by assumption)
end
/-- the class Whitespace's place -/
noncomputable abbrev clsA : Addr := 83
noncomputable def OKo (B : Bs) (ρ : List Addr) (o : Obj) : AO → Prop
  | .list l => ∃ vs n, o = { cls := .type "list", data := .seq (List.toArray vs) n } ∧ VRs B ρ l vs
  | .tup l => ∃ vs n, o = { cls := .type "tuple", data := .seq (List.toArray vs) n } ∧ VRs B ρ l vs
  | .dict l => ∃ es kvs, o.ExactDict ∧ o.data = .dict es l.length ∧ KeysOf (intKind Challenge.pw_rl0083_01 B.w) es ∧ Pairs (intKind Challenge.pw_rl0083_01 B.w) es.toList kvs ∧ DRs l kvs ∧ (l.map (·.1)).Nodup
  | .inst d => ∃ da, ρ[d]? = some da ∧ o = W.instObj clsA da
  | .attrs l => ∃ es n, o = W.dictOf es n ∧ ARs B ρ l es ∧ l.all (fun p => isField p.1) = true

structure St (B : Bs) (ρ : List Addr) (H : AH) (h : Heap) : Prop where
  keep : ∀ b o, B.h₀.get? b = some o → h.get? b = some o
  len : ρ.length = H.length
  nodup : ρ.Nodup
  fresh : ∀ a ∈ ρ, B.h₀.get? a = none
  obj : ∀ (k : Nat) (ao : AO), H[k]? = some ao → ∃ a o, ρ[k]? = some a ∧ h.get? a = some o ∧ OKo B ρ o ao

structure Ext (ρ : List Addr) (O : Addr → Prop) (s : Shared) (ρ' : List Addr) (s' : Shared) : Prop where
  pre : ρ <+: ρ'
  new : ∀ a ∈ ρ', a ∈ ρ ∨ s.heap.get? a = none
  kept : ∀ b o, s.heap.get? b = some o → b ∉ ρ → ¬ O b → s'.heap.get? b = some o
  alive : ∀ b o, s.heap.get? b = some o → ∃ o', s'.heap.get? b = some o'
  gens : ∀ (i : Nat) g, s.gens[i]? = some g → s'.gens[i]? = some g
  bare : AllBare s.gens → AllBare s'.gens
  os : s'.os = s.os
noncomputable abbrev noO : Addr → Prop := fun _ => False

theorem pre_get {ρ ρ' : List Addr} (h : ρ <+: ρ') {k : Nat} {a : Addr} (e : ρ[k]? = some a) : ρ'[k]? = some a := by
  obtain ⟨t, rfl⟩ := h
  obtain ⟨hl, _⟩ := List.getElem?_eq_some_iff.mp e
  rw [List.getElem?_append_left hl]; exact e
theorem VR.mono {B : Bs} {ρ ρ' : List Addr} (h : ρ <+: ρ') {a : AV} {v : Value} (x : VR B ρ a v) : VR B ρ' a v := by
  cases x with
  | ref e => exact .ref (pre_get h e)
  | none => exact .none
  | bool b => exact .bool b
  | int i t => exact .int i t
  | flt x t => exact .flt x t
  | str x t => exact .str x t
  | scr => exact .scr
theorem VRs.mono {B : Bs} {ρ ρ' : List Addr} (h : ρ <+: ρ') {a : List AV} {v : List Value} (x : VRs B ρ a v) : VRs B ρ' a v := by
  induction x with
  | nil => exact .nil
  | cons y _ ih => exact .cons (y.mono h) ih
theorem ARs.mono {B : Bs} {ρ ρ' : List Addr} (h : ρ <+: ρ') {a : List (Str × AV)} {v : List DictEntry} (x : ARs B ρ a v) : ARs B ρ' a v := by
  induction x with
  | nil => exact .nil
  | cons y _ ih => exact .cons (y.mono h) ih
theorem OKo.mono {B : Bs} {ρ ρ' : List Addr} (h : ρ <+: ρ') {o : Obj} {ao : AO} (x : OKo B ρ o ao) : OKo B ρ' o ao := by
  cases ao with
  | list l => obtain ⟨vs, n, e, r⟩ := x; exact ⟨vs, n, e, r.mono h⟩
  | tup l => obtain ⟨vs, n, e, r⟩ := x; exact ⟨vs, n, e, r.mono h⟩
  | dict l => exact x
  | inst d => obtain ⟨da, e, r⟩ := x; exact ⟨da, pre_get h e, r⟩
  | attrs l => obtain ⟨es, n, e, r, q⟩ := x; exact ⟨es, n, e, r.mono h, q⟩
theorem VRs.length {B : Bs} {ρ : List Addr} {a : List AV} {v : List Value} (x : VRs B ρ a v) : a.length = v.length := by
  induction x with
  | nil => rfl
  | cons _ _ ih => simp [ih]
theorem VRs.append {B : Bs} {ρ : List Addr} {a b : List AV} {u v : List Value} (x : VRs B ρ a u) (y : VRs B ρ b v) : VRs B ρ (a ++ b) (u ++ v) := by
  induction x with
  | nil => exact y
  | cons h _ ih => exact .cons h ih
theorem VRs.get {B : Bs} {ρ : List Addr} {a : List AV} {v : List Value} (x : VRs B ρ a v) : ∀ (i : Nat) (y : AV), a[i]? = some y → ∃ u, v[i]? = some u ∧ VR B ρ y u := by
  induction x with
  | nil => intro i y h; cases i <;> cases h
  | cons h _ ih =>
    intro i y e
    cases i with
    | zero => cases e; exact ⟨_, rfl, h⟩
    | succ i => exact ih i y e

theorem VRs.one {B : Bs} {ρ : List Addr} {a : AV} {us : List Value} (x : VRs B ρ [a] us) : ∃ u, us = [u] ∧ VR B ρ a u := by
  cases x with
  | cons h r => cases r; exact ⟨_, rfl, h⟩
theorem VRs.two {B : Bs} {ρ : List Addr} {a b : AV} {us : List Value} (x : VRs B ρ [a, b] us) : ∃ u v, us = [u, v] ∧ VR B ρ a u ∧ VR B ρ b v := by
  cases x with
  | cons h r => obtain ⟨v, rfl, q⟩ := r.one; exact ⟨_, _, rfl, h, q⟩
theorem VR.refI {B : Bs} {ρ : List Addr} {k : Nat} {u : Value} (x : VR B ρ (.ref k) u) : ∃ a, u = .ref a ∧ ρ[k]? = some a := by cases x with | ref q => exact ⟨_, rfl, q⟩
theorem VR.intI {B : Bs} {ρ : List Addr} {i : Int} {u : Value} (x : VR B ρ (.int i) u) : ∃ t, u = .int i t := by cases x; exact ⟨_, rfl⟩
theorem VR.strI {B : Bs} {ρ : List Addr} {i : Str} {u : Value} (x : VR B ρ (.str i) u) : ∃ t, u = .str i t := by cases x; exact ⟨_, rfl⟩
theorem VR.boolI {B : Bs} {ρ : List Addr} {i : Bool} {u : Value} (x : VR B ρ (.bool i) u) : u = .bool i := by cases x; rfl

namespace Ext
variable {ρ ρ' ρ'' : List Addr} {O O' : Addr → Prop} {s s' s'' : Shared}
theorem refl : Ext ρ O s ρ s := ⟨List.prefix_rfl, fun _ h => .inl h, fun _ _ e _ _ => e, fun _ o e => ⟨o, e⟩, fun _ _ e => e, fun h => h, rfl⟩
theorem trans (x : Ext ρ O s ρ' s') (y : Ext ρ' O s' ρ'' s'') : Ext ρ O s ρ'' s'' where
  pre := x.pre.trans y.pre
  new := fun a ha => by
    rcases y.new a ha with h | h
    · exact x.new a h
    · refine .inr ?_
      cases q : s.heap.get? a with
      | none => rfl
      | some o => obtain ⟨o', e⟩ := x.alive a o q; rw [h] at e; cases e
  kept := fun b o e hb ho => y.kept b o (x.kept b o e hb ho) (fun hm => by
    rcases x.new b hm with h | h
    · exact hb h
    · rw [e] at h; cases h) ho
  alive := fun b o e => let ⟨o', e'⟩ := x.alive b o e; y.alive b o' e'
  gens := fun i g e => y.gens i g (x.gens i g e)
  bare := fun h => y.bare (x.bare h)
  os := y.os.trans x.os
theorem mono (x : Ext ρ O s ρ' s') (h : ∀ a, O a → O' a) : Ext ρ O' s ρ' s' :=
  ⟨x.pre, x.new, fun b o e hb ho => x.kept b o e hb fun q => ho (h b q), x.alive, x.gens, x.bare, x.os⟩
theorem any (x : Ext ρ noO s ρ' s') : Ext ρ O s ρ' s' := x.mono fun _ h => h.elim
/-- only tokens, or new objects that nothing tracks -/
theorem keeps {h' : Heap} {tk : Nat} (hk : ∀ b o, s.heap.get? b = some o → h'.get? b = some o) : Ext ρ O s ρ { s with heap := h', toks := tk } :=
  ⟨List.prefix_rfl, fun _ h => .inl h, fun b o e _ _ => hk b o e, fun b o e => ⟨o, hk b o e⟩, fun _ _ e => e, fun h => h, rfl⟩
theorem toks {tk : Nat} : Ext ρ O s ρ { s with toks := tk } := keeps fun _ _ e => e
end Ext

namespace St
variable {B : Bs} {ρ ρ' : List Addr} {H : AH} {h h' : Heap}
theorem keeps (x : St B ρ H h) (hk : ∀ b o, h.get? b = some o → h'.get? b = some o) : St B ρ H h' where
  keep := fun b o e => hk b o (x.keep b o e)
  len := x.len
  nodup := x.nodup
  fresh := x.fresh
  obj := fun k ao e => let ⟨a, o, h1, h2, h3⟩ := x.obj k ao e; ⟨a, o, h1, hk a o h2, h3⟩
theorem keepsBut (x : St B ρ H h) {L : Addr} (hL : L ∉ ρ) (hB : B.h₀.get? L = none) (hk : ∀ b o, b ≠ L → h.get? b = some o → h'.get? b = some o) : St B ρ H h' where
  keep := fun b o e => hk b o (fun q => by rw [q, hB] at e; cases e) (x.keep b o e)
  len := x.len
  nodup := x.nodup
  fresh := x.fresh
  obj := fun k ao e => let ⟨a, o, h1, h2, h3⟩ := x.obj k ao e; ⟨a, o, h1, hk a o (fun q => hL (q ▸ List.mem_of_getElem? h1)) h2, h3⟩
theorem at_ (x : St B ρ H h) {k : Nat} {ao : AO} {a : Addr} (e : H[k]? = some ao) (ha : ρ[k]? = some a) : ∃ o, h.get? a = some o ∧ OKo B ρ o ao := by
  refine hide fun hG hF => ?_
  obtain ⟨a', o, h1, h2, h3⟩ := x.obj k ao e
  refine hF ?_
  clear hF hG
  rw [ha] at h1; cases h1
  exact ⟨o, h2, h3⟩
theorem aliveAt (x : St B ρ H h) {a : Addr} (ha : a ∈ ρ) : ∃ o, h.get? a = some o := by
  obtain ⟨k, hk⟩ := List.getElem?_of_mem ha
  obtain ⟨hl, _⟩ := List.getElem?_eq_some_iff.mp hk
  have : k < H.length := x.len ▸ hl
  obtain ⟨o, h2, _⟩ := x.at_ (k := k) (ao := H[k]) (by simp [this]) hk
  exact ⟨o, h2⟩
theorem alloc (x : St B ρ H h) {o : Obj} {ao : AO} (ok : ∀ ρ', ρ <+: ρ' → OKo B ρ' o ao) (hf : o.isFreed = false := by rfl) : St B (ρ ++ [h.objs.size]) (H ++ [ao]) (h.push o) := by
  have hnew : h.objs.size ∉ ρ := fun hm => by obtain ⟨o', e⟩ := x.aliveAt hm; exact absurd (Heap.lt_size e) (Nat.lt_irrefl _)
  have hp : ρ <+: ρ ++ [h.objs.size] := List.prefix_append ..
  refine ⟨fun b o' e => Heap.get?_push_of_some _ (x.keep b o' e), by simp [x.len], ?_, ?_, ?_⟩
  · exact List.nodup_append.mpr ⟨x.nodup, by simp, fun a ha b hb => by rw [List.mem_singleton.mp hb]; exact fun q => hnew (q ▸ ha)⟩
  · intro a ha
    rcases List.mem_append.mp ha with q | q
    · exact x.fresh a q
    · rw [List.mem_singleton.mp q]
      cases e : B.h₀.get? h.objs.size with
      | none => rfl
      | some o' => exact absurd (Heap.lt_size (x.keep _ _ e)) (Nat.lt_irrefl _)
  · intro k ao' e
    by_cases hk : k < H.length
    · rw [List.getElem?_append_left hk] at e
      obtain ⟨a, o', h1, h2, h3⟩ := x.obj k ao' e
      exact ⟨a, o', pre_get hp h1, Heap.get?_push_of_some _ h2, h3.mono hp⟩
    · have hk' : k = H.length := by
        have := (List.getElem?_eq_some_iff.mp e).1
        simp at this; omega
      subst hk'
      rw [List.getElem?_append_right (Nat.le_refl _)] at e
      simp at e; subst e
      refine ⟨h.objs.size, o, ?_, Heap.get?_push_size _ hf, ok _ hp⟩
      rw [← x.len, List.getElem?_append_right (Nat.le_refl _)]; simp
theorem set (x : St B ρ H h) {k : Nat} {a : Addr} {o' : Obj} {ao : AO} (ha : ρ[k]? = some a) (hs : Heap.SameBut a h h') (hg : h'.get? a = some o') (ok : OKo B ρ o' ao) : St B ρ (H.set k ao) h' where
  keep := fun b o e => (hs.2 b fun q => by
    have := x.fresh a (List.mem_of_getElem? ha); rw [q, this] at e; cases e).trans (x.keep b o e)
  len := by simp [x.len]
  nodup := x.nodup
  fresh := x.fresh
  obj := fun j ao' e => by
    by_cases hj : j = k
    · subst hj
      obtain ⟨hl, e'⟩ := List.getElem?_eq_some_iff.mp e
      rw [List.getElem_set_self] at e'
      subst e'
      exact ⟨a, o', ha, hg, ok⟩
    · rw [List.getElem?_set_ne (Ne.symm hj)] at e
      refine hide fun hG hF => ?_
      obtain ⟨b, o, h1, h2, h3⟩ := x.obj j ao' e
      refine hF ?_
      clear hF hG
      refine ⟨b, o, h1, (hs.2 b fun q => hj ?_).trans h2, h3⟩
      subst q
      obtain ⟨l1, e1⟩ := List.getElem?_eq_some_iff.mp h1
      obtain ⟨l2, e2⟩ := List.getElem?_eq_some_iff.mp ha
      exact (List.getElem_inj x.nodup).mp (e1.trans e2.symm)
end St
theorem Ext.push {ρ : List Addr} {O : Addr → Prop} {s : Shared} {o : Obj} {tk : Nat} : Ext ρ O s (ρ ++ [s.heap.objs.size]) { s with heap := s.heap.push o, toks := tk } where
  pre := List.prefix_append ..
  new := fun a ha => by
    rcases List.mem_append.mp ha with q | q
    · exact .inl q
    · rw [List.mem_singleton.mp q]
      refine .inr ?_
      cases e : s.heap.get? s.heap.objs.size with
      | none => rfl
      | some o' => exact absurd (Heap.lt_size e) (Nat.lt_irrefl _)
  kept := fun b o e _ _ => Heap.get?_push_of_some _ e
  alive := fun b o e => ⟨o, Heap.get?_push_of_some _ e⟩
  gens := fun _ _ e => e
  bare := fun h => h
  os := rfl
theorem Ext.upd {ρ : List Addr} {O : Addr → Prop} {s : Shared} {a : Addr} {h' : Heap} {tk : Nat} {o' : Obj} (ha : a ∈ ρ) (hs : Heap.SameBut a s.heap h') (hg : h'.get? a = some o') : Ext ρ O s ρ { s with heap := h', toks := tk } where
  pre := List.prefix_rfl
  new := fun _ h => .inl h
  kept := fun b o e hb _ => (hs.2 b fun q => hb (q ▸ ha)).trans e
  alive := fun b o e => by
    by_cases q : b = a
    · subst q; exact ⟨_, hg⟩
    · exact ⟨o, (hs.2 b q).trans e⟩
  gens := fun _ _ e => e
  bare := fun h => h
  os := rfl

structure Fm (B : Bs) (env : Env) (ρ : List Addr) (l : AL) (h : Heap) : Prop where
  kind : env.scope.kind = .function
  glb : env.globals = mainGlobals
  blt : env.builtins = builtinsNs
  ns : ∃ m, h.Ns env.locals m ∧ ∀ x v, l x = some v → env.kindOf x = some .local → ∃ u, m x = some u ∧ VR B ρ v u
  cel : ∀ x, env.kindOf x = some .cell → ∃ c w, env.cells.lookup x = some c ∧ h.IsCell c w ∧ c ∉ ρ ∧ B.h₀.get? c = none ∧ c ≠ env.locals ∧ ∀ v, l x = some v → ∃ u, w = some u ∧ VR B ρ v u
  inj : ∀ x y c, env.cells.lookup x = some c → env.cells.lookup y = some c → x = y
  locR : env.locals ∉ ρ
  base : B.h₀.get? env.locals = none

/-- a frame's own places -/
noncomputable def own (env : Env) (a : Addr) : Prop := a = env.locals ∨ ∃ x, env.kindOf x = some .cell ∧ env.cells.lookup x = some a

theorem Fm.move {B : Bs} {env : Env} {ρ ρ' : List Addr} {l : AL} {s s' : Shared} (F : Fm B env ρ l s.heap) (x : Ext ρ noO s ρ' s') : Fm B env ρ' l s'.heap where
  kind := F.kind
  glb := F.glb
  blt := F.blt
  ns := by
    obtain ⟨m, hn, hv⟩ := F.ns
    refine ⟨m, hn.at' fun o e => x.kept _ o e F.locR fun h => h, fun y v e k => ?_⟩
    obtain ⟨u, h1, h2⟩ := hv y v e k
    exact ⟨u, h1, h2.mono x.pre⟩
  cel := fun y k => by
    refine hide fun hG hF => ?_
    obtain ⟨c, w, h1, ⟨o, ho, hd⟩, h3, h4, h5, h6⟩ := F.cel y k
    refine hF ?_
    clear hF hG
    refine ⟨c, w, h1, ⟨o, x.kept c o ho h3 fun h => h, hd⟩, fun hm => ?_, h4, h5, fun v e => ?_⟩
    · rcases x.new c hm with q | q
      · exact h3 q
      · rw [ho] at q; cases q
    · obtain ⟨u, e1, e2⟩ := h6 v e
      exact ⟨u, e1, e2.mono x.pre⟩
  inj := F.inj
  locR := fun hm => by
    refine hide fun hG hF => ?_
    obtain ⟨m, ⟨o, _, _, ho, _⟩, _⟩ := F.ns
    refine hF ?_
    clear hF hG
    rcases x.new _ hm with q | q
    · exact F.locR q
    · rw [ho] at q; cases q
  base := F.base

section
variable {B : Bs} {A : Around} {E : Value → Shared → Prop} {s : Shared} {env : Env} {ρ : List Addr} {l : AL} {H : AH}
theorem isVar_cases {N : Names} {x : Str} (h : isVar N x = true) : N.lookup x = some .local ∨ N.lookup x = some .cell := by
  unfold isVar at h
  rw [Bool.and_eq_true] at h
  obtain ⟨_, h⟩ := h
  split at h
  · exact .inl (by assumption)
  · exact .inr (by assumption)
  · cases h
theorem isVar_debug {N : Names} {x : Str} (h : isVar N x = true) : (x == ("__debug__" : Str)) = false := by
  unfold isVar at h
  rw [Bool.and_eq_true] at h
  simpa using h.1
theorem Fm.load (F : Fm B env ρ l s.heap) {x : Str} {v : AV} {Q : Value → Shared → Prop} (hx : isVar env.scope.names x = true) (hv : l x = some v) (h : ∀ u, VR B ρ v u → Q u s) :
    wpAny (MM B) A (loadName env x) Q E s := by
  rcases isVar_cases hx with k | k
  · obtain ⟨m, hn, hm⟩ := F.ns
    obtain ⟨u, h1, h2⟩ := hm x v hv k
    exact wpAny_loadName_local F.kind k hn h1 (h u h2)
  · obtain ⟨c, w, h1, h2, _, _, _, h6⟩ := F.cel x k
    obtain ⟨u, rfl, hu⟩ := h6 v hv
    exact wpAny_loadName_cell F.kind k h1 h2 (h u hu)
theorem Fm.store (F : Fm B env ρ l s.heap) (S : St B ρ H s.heap) {x : Str} {v : AV} {u : Value} {Q : Unit → Shared → Prop} (hx : isVar env.scope.names x = true) (hv : VR B ρ v u)
    (h : ∀ h' tk, Ext ρ (own env) s ρ { s with heap := h', toks := tk } → Fm B env ρ (put l x v) h' → St B ρ H h' → Q () { s with heap := h', toks := tk }) :
    wpAny (MM B) A (storeName env x u) Q E s := by
  rcases isVar_cases hx with k | k
  · obtain ⟨m, hn, hm⟩ := F.ns
    refine wpAny_storeName_local k hn (fun h' hn' hs' => ?_) (by rw [F.kind]; rfl)
    have hk : ∀ b o, b ≠ env.locals → s.heap.get? b = some o → h'.get? b = some o := fun b o hb e => (hs'.2 b hb).trans e
    refine h h' _ ⟨List.prefix_rfl, fun _ h => .inl h, fun b o e _ hb => hk b o (fun q => hb (.inl q)) e, fun b o e => ?_, fun _ _ e => e, fun h => h, rfl⟩ ⟨F.kind, F.glb, F.blt, ⟨_, hn', fun y a e ky => ?_⟩, fun y ky => ?_, F.inj, F.locR, F.base⟩ (S.keepsBut F.locR F.base hk)
    · by_cases q : b = env.locals
      · subst q; obtain ⟨o', _, _, ho', _⟩ := hn'; exact ⟨o', ho'⟩
      · exact ⟨o, hk b o q e⟩
    · by_cases q : y = x
      · subst q
        simp only [put, if_true] at e
        cases e
        exact ⟨u, by simp, hv⟩
      · simp only [put, if_neg q] at e ⊢
        exact hm y a e ky
    · refine hide fun hG hF => ?_
      obtain ⟨c, w, h1, ⟨o, ho, hd⟩, h3, h4, h5, h6⟩ := F.cel y ky
      refine hF ?_
      clear hF hG
      refine ⟨c, w, h1, ⟨o, hk c o h5 ho, hd⟩, h3, h4, h5, fun a e => ?_⟩
      have q : y ≠ x := fun q => by subst q; rw [show env.kindOf y = _ from k] at ky; cases ky
      simp only [put, if_neg q] at e
      exact h6 a e
  · refine hide fun hG hF => ?_
    obtain ⟨c, w, h1, h2, h3, h4, h5, h6⟩ := F.cel x k
    refine hF ?_
    clear hF hG
    refine wpAny_storeName_cell F.kind k h1 h2 fun h' hc' hs' => ?_
    have hk : ∀ b o, b ≠ c → s.heap.get? b = some o → h'.get? b = some o := fun b o hb e => (hs'.2 b hb).trans e
    obtain ⟨m, hn, hm⟩ := F.ns
    refine h h' s.toks ⟨List.prefix_rfl, fun _ h => .inl h, fun b o e _ hb => hk b o (fun q => hb (.inr ⟨x, k, q ▸ h1⟩)) e, fun b o e => ?_, fun _ _ e => e, fun h => h, rfl⟩ ⟨F.kind, F.glb, F.blt, ⟨m, hn.at' fun o e => hk _ o (Ne.symm h5) e, fun y a e ky => ?_⟩, fun y ky => ?_, F.inj, F.locR, F.base⟩ (S.keepsBut h3 h4 hk)
    · by_cases q : b = c
      · subst q; obtain ⟨o', ho', _⟩ := hc'; exact ⟨o', ho'⟩
      · exact ⟨o, hk b o q e⟩
    · have q : y ≠ x := fun q => by subst q; have k' : env.kindOf y = some .cell := k; rw [ky] at k'; cases k'
      simp only [put, if_neg q] at e
      exact hm y a e ky
    · by_cases q : y = x
      · subst q
        refine ⟨c, _, h1, hc', h3, h4, h5, fun a e => ?_⟩
        simp only [put, if_true] at e
        cases e
        exact ⟨u, rfl, hv⟩
      · refine hide fun hG hF => ?_
        obtain ⟨c', w', g1, ⟨o, ho, hd⟩, g3, g4, g5, g6⟩ := F.cel y ky
        refine hF ?_
        clear hF hG
        refine ⟨c', w', g1, ⟨o, hk c' o (fun z => q (F.inj y x c (z ▸ g1) h1)) ho, hd⟩, g3, g4, g5, fun a e => ?_⟩
        simp only [put, if_neg q] at e
        exact g6 a e
end
end Mine
end
section
/-! The operations: what the evaluator reckons, the model gives. -/
namespace Mine
open PySem PySem.Spec PySem.Calls PyProof.Rows

structure Fit (n : Nat) (A : Around) : Prop where
  handled : A.handled = none
  depth : A.depth + 8 * n ≤ 900
  units : A.units + 30 * n ≤ 9800
theorem Fit.mono {n m : Nat} {A : Around} (h : Fit n A) (hm : m ≤ n) : Fit m A := ⟨h.handled, by have := h.depth; omega, by have := h.units; omega⟩
theorem Fit.units' {n : Nat} {A : Around} (h : Fit n A) : A.units < cLine := by have := h.units; have := cLine_is; omega

noncomputable abbrev never : Value → Shared → Prop := fun _ _ => False
/-- what holds behind an expression -/
inductive EP (B : Bs) (env : Env) (l : AL) (ρ : List Addr) (s : Shared) (v : AV) (H' : AH) (u : Value) (s' : Shared) : Prop
  | mk (ρ' : List Addr) (x : Ext ρ noO s ρ' s') (F : Fm B env ρ' l s'.heap) (S : St B ρ' H' s'.heap) (r : VR B ρ' v u)
/-- what holds behind a call -/
inductive CP (B : Bs) (ρ : List Addr) (s : Shared) (v : AV) (H' : AH) (u : Value) (s' : Shared) : Prop
  | mk (ρ' : List Addr) (x : Ext ρ noO s ρ' s') (S : St B ρ' H' s'.heap) (r : VR B ρ' v u)

section
variable {B : Bs} {env : Env} {l : AL} {ρ ρ' ρ'' : List Addr} {s s' s'' : Shared} {v : AV} {u : Value} {H H' : AH} {A : Around}
theorem EP.of (F : Fm B env ρ l s.heap) (h : CP B ρ s v H' u s') : EP B env l ρ s v H' u s' := by
  obtain ⟨ρ', x, S, r⟩ := h
  exact ⟨ρ', x, F.move x, S, r⟩
theorem CP.tok (S : St B ρ H s.heap) (r : VR B ρ v u) {tk : Nat} : CP B ρ s v H u { s with toks := tk } := ⟨ρ, Ext.toks, S, r⟩
theorem CP.same (S : St B ρ H s.heap) (r : VR B ρ v u) : CP B ρ s v H u s := ⟨ρ, Ext.refl, S, r⟩
theorem CP.push (S : St B ρ H s.heap) {o : Obj} {ao : AO} (ok : ∀ ρ', ρ <+: ρ' → OKo B ρ' o ao) {tk : Nat} (hf : o.isFreed = false := by rfl) :
    CP B ρ s (.ref H.length) (H ++ [ao]) (.ref s.heap.objs.size) { s with heap := s.heap.push o, toks := tk } :=
  ⟨_, Ext.push, S.alloc ok hf, .ref (by rw [← S.len, List.getElem?_append_right (Nat.le_refl _)]; simp)⟩
theorem CP.after {w : AV} {x : Value} (e : Ext ρ noO s ρ' s') (h : CP B ρ' s' w H' x s'') : CP B ρ s w H' x s'' := by
  obtain ⟨ρ₂, a, b, c⟩ := h
  exact ⟨ρ₂, e.trans a, b, c⟩
theorem EP.after {w : AV} {x : Value} (e : Ext ρ noO s ρ' s') (h : EP B env l ρ' s' w H' x s'') : EP B env l ρ s w H' x s'' := by
  obtain ⟨ρ₂, a, b, c, d⟩ := h
  exact ⟨ρ₂, e.trans a, b, c, d⟩
theorem wp_false {α : Type} {M : Model} {t : Sem α} {Q : α → Shared → Prop} {E : Value → Shared → Prop} (h : wpAny M A t Q never s) : wpAny M A t Q E s := wpAny_mono h (fun _ _ x => x) fun _ _ x => x.elim

theorem small_bits {i : Int} (h : small i = true) : Builtin.Int.intBits i ≤ 64 := by
  have := small_of h
  exact intBits_le_64 (by omega) (by omega)
theorem size_line {n : Nat} (h : sizeOk n = true) : n ≤ sizeLine := by have := sizeOk_of h; rw [sizeLine_eq]; omega

theorem list_at (S : St B ρ H s.heap) {k : Nat} {x : List AV} {a : Addr} (e : listAt H k = some x) (ha : ρ[k]? = some a) :
    ∃ vs n, s.heap.get? a = some { cls := .type "list", data := .seq (List.toArray vs) n } ∧ VRs B ρ x vs := by
  obtain ⟨o, h2, vs, n, rfl, r⟩ := S.at_ (listAt_inv e) ha
  exact ⟨vs, n, h2, r⟩
theorem tup_at (S : St B ρ H s.heap) {k : Nat} {x : List AV} {a : Addr} (e : tupAt H k = some x) (ha : ρ[k]? = some a) :
    ∃ vs n, s.heap.get? a = some { cls := .type "tuple", data := .seq (List.toArray vs) n } ∧ VRs B ρ x vs := by
  obtain ⟨o, h2, vs, n, rfl, r⟩ := S.at_ (tupAt_inv e) ha
  exact ⟨vs, n, h2, r⟩

theorem flat_rep {α : Type} (x : List α) : ∀ (n : Nat) (acc : Array α), (List.replicate n x.toArray).foldl (· ++ ·) acc = acc ++ (List.replicate n x).flatten.toArray
  | 0, acc => by simp
  | n + 1, acc => by
    rw [List.replicate_succ, List.foldl_cons, flat_rep x n, List.replicate_succ, List.flatten_cons]
    apply Array.ext'
    simp
theorem mulS_eq (x : Str) (n : Int) : Txt.mul x n = mulS x n := by
  unfold Txt.mul mulS
  by_cases h1 : n < 1
  · have : n.toNat = 0 := by omega
    simp only [if_pos h1, this]
    rfl
  · simp only [if_neg h1]
    by_cases h2 : (n == 1 || x.length == 0) = true
    · simp only [if_pos h2]
      rcases Bool.or_eq_true_iff.mp h2 with h | h
      · have h3 : n = 1 := by simpa using h
        subst h3
        show x = _
        have : (1 : Int).toNat = 1 := rfl
        rw [this]
        cases x with
        | mk c => simp
      · have h3 : x.cps.size = 0 := by have h' : x.length = 0 := by simpa using h
                                       exact h'
        have h4 : x.cps.toList = [] := by simpa using h3
        rw [h4]
        cases x with
        | mk c =>
          have : c = #[] := by simpa using h4
          subst this
          congr
          generalize n.toNat = k
          induction k with
          | zero => rfl
          | succ k ih => rw [List.replicate_succ, List.flatten_cons, List.nil_append]; exact ih
    · simp only [if_neg h2]
      congr 1
      have := flat_rep x.cps.toList n.toNat #[]
      rw [Array.toArray_toList] at this
      rw [this]; simp
theorem vrs_replicate {x : List AV} {vs : List Value} (r : VRs B ρ x vs) : ∀ n : Nat, VRs B ρ (List.replicate n x).flatten (List.replicate n vs).flatten
  | 0 => .nil
  | n + 1 => by
    rw [List.replicate_succ, List.flatten_cons, List.replicate_succ, List.flatten_cons]
    exact r.append (vrs_replicate r n)

section
variable {n : Nat} {a b : AV} {ua ub : Value}
theorem addV_ok (h : addV a b H = some (v, H')) (S : St B ρ H s.heap) (ra : VR B ρ a ua) (rb : VR B ρ b ub) : wpAny (MM B) A (binaryOp .Add ua ub) (CP B ρ s v H') never s := by
  cases ra with
  | int i t => obtain ⟨j, rfl, h⟩ := onInt_inv h; refine res2 h ?_; refine VR.intE rb fun _ => ?_; exact add_int (CP.tok S (.int ..))
  | str x t =>
    obtain ⟨y, rfl, h⟩ := onStr_inv h
    obtain ⟨hs, h⟩ := if_inv h
    refine res2 h ?_; refine VR.strE rb fun _ => ?_
    exact add_str (fun t' tk => CP.tok S (.str ..)) (size_line hs)
  | flt x t => obtain ⟨y, rfl, h⟩ := onFlt_inv h; refine res2 h ?_; refine VR.fltE rb fun _ => ?_; exact add_float (CP.tok S (.flt ..))
  | ref ha =>
    obtain ⟨k, rfl, h⟩ := onRef_inv h
    obtain ⟨x, hx, h⟩ := bind_inv h
    obtain ⟨y, hy, h⟩ := bind_inv h
    obtain ⟨hs, h⟩ := if_inv h
    cases rb with | ref hb =>
    obtain ⟨vs, n1, g1, r1⟩ := list_at S hx ha
    obtain ⟨ws, n2, g2, r2⟩ := list_at S hy hb
    refine res2 h ?_
    refine PySem.P.add_list g1 g2 ?_ ?_
    · refine CP.push (ao := .list (x ++ y)) (tk := s.toks) S fun ρ' hp => ⟨vs ++ ws, 0, ?_, (r1.append r2).mono hp⟩
      simp
    · have := size_line hs
      simp only [List.size_toArray, ← r1.length, ← r2.length]; exact this
  | none => exact nn h
  | bool _ => exact nn h
  | scr => exact nn h
theorem subV_ok (ft : Fit n A) (h : subV a b H = some (v, H')) (S : St B ρ H s.heap) (ra : VR B ρ a ua) (rb : VR B ρ b ub) : wpAny (MM B) A (binaryOp .Sub ua ub) (CP B ρ s v H') never s := by
  cases ra with
  | int i t => obtain ⟨j, rfl, h⟩ := onInt_inv h; refine res2 h ?_; refine VR.intE rb fun _ => ?_; exact sub_int (CP.tok S (.int ..))
  | flt x t =>
    cases rb with
    | flt y u => refine res2 h ?_; exact sub_float (CP.tok S (.flt ..))
    | int y u =>
      have h : (if Float64.isInf (Float64.ofInt y) = true then none else some (AV.flt (Float64.sub x (Float64.ofInt y)), H)) = some (v, H') := h
      by_cases hs : Float64.isInf (Float64.ofInt y) = true
      · rw [if_pos hs] at h; exact nn h
      · rw [if_neg hs] at h
        refine res2 h ?_
        exact sub_fi_or ft.handled (fun q => absurd q hs) fun _ => CP.tok S (.flt ..)
    | str _ _ => exact nn h
    | ref _ => exact nn h
    | none => exact nn h
    | bool _ => exact nn h
    | scr => exact nn h
  | str _ _ => exact nn h
  | ref _ => exact nn h
  | none => exact nn h
  | bool _ => exact nn h
  | scr => exact nn h
theorem mulS_ok {x : Str} {y : Int} {t u : Tok} (h1 : small y = true) (h2 : sizeOk (x.length * y.toNat) = true) (S : St B ρ H s.heap) : wpAny (MM B) A (binaryOp .Mult (.str x t) (.int y u)) (CP B ρ s (.str (mulS x y)) H) never s := by
  have h1 := small_of h1
  have h2 := sizeOk_of h2
  refine SB.mul ?_ fun t' k => ?_
  · refine ⟨?_, fun _ _ => ?_, fun _ _ => ?_⟩
    · simp only [Bool.or_eq_false_iff, decide_eq_false_iff_not]; omega
    · rename_i q1 q2
      have hn : 0 < y := by omega
      have hx : 1 ≤ x.length := by
        have : x.length ≠ 0 := fun z => by rw [z] at q2; simp at q2
        omega
      have h3 : x.length ≤ 1000000 := by
        have : x.length * 1 ≤ x.length * y.toNat := Nat.mul_le_mul_left _ (by omega)
        omega
      have h4 : (2 ^ 63 - 1 : Int) / y ≥ (2 ^ 63 - 1 : Int) / 1000000000 := by
        have : (2 ^ 63 - 1 : Int) / 1000000000 * y ≤ 2 ^ 63 - 1 := by
          have h5 : (2 ^ 63 - 1 : Int) / 1000000000 * y ≤ (2 ^ 63 - 1 : Int) / 1000000000 * 1000000000 := Int.mul_le_mul_of_nonneg_left (by omega) (by decide)
          have h6 : (2 ^ 63 - 1 : Int) / 1000000000 * 1000000000 ≤ 2 ^ 63 - 1 := by decide
          omega
        exact (Int.le_ediv_iff_mul_le hn).mpr this
      have h7 : ((2 ^ 63 - 1 : Int) / 1000000000) = 9223372036 := by decide
      omega
    · unfold Builtin.Str.tooLong
      rw [sizeLine_eq]
      simp only [decide_eq_false_iff_not]
      omega
  · rw [mulS_eq]; exact CP.tok S (.str ..)
theorem mulL_ok {k : Nat} {x : List AV} {y : Int} {u : Tok} {aj : Addr} (hx : listAt H k = some x) (ha : ρ[k]? = some aj) (h1 : small y = true) (h2 : sizeOk (x.length * y.toNat) = true) (S : St B ρ H s.heap) :
    wpAny (MM B) A (binaryOp .Mult (.ref aj) (.int y u)) (CP B ρ s (.ref H.length) (H ++ [.list (List.replicate y.toNat x).flatten])) never s := by
  obtain ⟨vs, n1, g1, r1⟩ := list_at S hx ha
  have h1 := small_of h1
  have h2 := sizeOk_of h2
  have h3 : vs.toArray.size * y.toNat ≤ 1000000 := by rw [List.size_toArray, ← r1.length]; exact h2
  refine wpAny_binaryOp_repeat_ref (T := "list") (U := "int") (by decide) ⟨_, g1, rfl⟩ (fun s' => typeIs_int s' y u) noFill_list_mul F.fills_int_mul F.slot_int_rmul repeat_list F.slot_int_index.lookup ?_
  refine call_meets F.slot_int_rmul (typeIs_int s y u) F.entry_int_rmul (F.args_int_rmul_2 _ _) (int___rmul___int_list y u aj vs.toArray n1) ⟨g1, rfl, ⟨_, g1, rfl⟩, ?_⟩
  refine call_meets F.slot_list_mul ⟨_, g1, rfl⟩ F.entry_list_mul (F.args_list_mul_2 _ _)
    (AutoListH.list___mul___list_int_3 aj vs.toArray n1 y u (by simp [Builtin.List.listFitsIndex]; omega) (by omega) (by simp [Builtin.List.listTooLong, sizeLine]; simp at h3; omega)) ⟨g1, ?_⟩
  refine CP.push (ao := .list (List.replicate y.toNat x).flatten) (tk := s.toks) S fun ρ' hp => ⟨(List.replicate y.toNat vs).flatten, 0, ?_, (vrs_replicate r1 _).mono hp⟩
  congr 2
  by_cases hv : vs = []
  · subst hv
    simp only [List.isEmpty_toArray, List.isEmpty_nil, if_true, List.replicate_zero, List.foldl_nil]
    generalize y.toNat = k
    induction k with
    | zero => rfl
    | succ k ih => rw [List.replicate_succ, List.flatten_cons, List.nil_append]; exact ih
  · have : vs.toArray.isEmpty = false := by cases vs with | nil => exact absurd rfl hv | cons _ _ => rfl
    rw [this]
    simp only [Bool.false_eq_true, if_false]
    rw [flat_rep]; simp
theorem mulV_ok (h : mulV a b H = some (v, H')) (S : St B ρ H s.heap) (ra : VR B ρ a ua) (rb : VR B ρ b ub) : wpAny (MM B) A (binaryOp .Mult ua ub) (CP B ρ s v H') never s := by
  cases ra with
  | int i t =>
    obtain ⟨j, rfl, h⟩ := onInt_inv h
    obtain ⟨hs, h⟩ := if_inv h
    refine res2 h ?_; refine VR.intE rb fun _ => ?_
    refine PySem.P.mul_int (CP.tok S (.int ..)) ?_
    rcases Bool.or_eq_true_iff.mp hs with q | q
    · exact .of_left (small_bits q)
    · exact .of_right (small_bits q)
  | str x t =>
    obtain ⟨y, rfl, h⟩ := onInt_inv h
    obtain ⟨hs, h⟩ := if_inv h
    rw [Bool.and_eq_true] at hs
    refine res2 h ?_; refine VR.intE rb fun _ => ?_
    exact mulS_ok hs.2 hs.1 S
  | flt x t => obtain ⟨y, rfl, h⟩ := onFlt_inv h; refine res2 h ?_; refine VR.fltE rb fun _ => ?_; exact mul_float (CP.tok S (.flt ..))
  | ref ha =>
    obtain ⟨y, rfl, h⟩ := onInt_inv h
    obtain ⟨x, hx, h⟩ := bind_inv h
    obtain ⟨hs, h⟩ := if_inv h
    rw [Bool.and_eq_true] at hs
    refine res2 h ?_; refine VR.intE rb fun _ => ?_
    exact mulL_ok hx ha hs.2 hs.1 S
  | none => exact nn h
  | bool _ => exact nn h
  | scr => exact nn h
theorem divV_ok (h : divV a b H = some (v, H')) (S : St B ρ H s.heap) (ra : VR B ρ a ua) (rb : VR B ρ b ub) : wpAny (MM B) A (binaryOp .Div ua ub) (CP B ρ s v H') never s := by
  obtain ⟨x, rfl, h⟩ := onInt_inv h
  refine VR.intE ra fun _ => ?_
  cases rb with
  | int y u =>
    obtain ⟨hs, h⟩ := if_inv h
    simp only [Bool.and_eq_true, bne_iff_ne, ne_eq, Bool.not_eq_true', beq_iff_eq] at hs
    refine res2 h ?_
    exact AutoIntOps.truediv_2 (by simpa using hs.1) (by simp [hs.2]) (CP.tok S (.flt ..))
  | flt y u =>
    obtain ⟨hs, h⟩ := if_inv h
    simp only [Bool.and_eq_true, Bool.not_eq_true'] at hs
    refine res2 h ?_
    exact AutoFloatOpsIf.truediv_if (by rw [if_neg (by simp [hs.1]), if_neg (by simp [hs.2])]; exact CP.tok S (.flt ..))
  | str _ _ => exact nn h
  | ref _ => exact nn h
  | none => exact nn h
  | bool _ => exact nn h
  | scr => exact nn h
theorem binop_ok {op : Operator} (ft : Fit n A) (h : binop op a b H = some (v, H')) (S : St B ρ H s.heap) (ra : VR B ρ a ua) (rb : VR B ρ b ub) :
    wpAny (MM B) A (binaryOp op ua ub) (CP B ρ s v H') never s := by
  cases op with
  | Add => exact addV_ok h S ra rb
  | Sub => exact subV_ok ft h S ra rb
  | Mult => exact mulV_ok h S ra rb
  | Div => exact divV_ok h S ra rb
  | FloorDiv =>
    obtain ⟨x, rfl, h⟩ := onInt_inv h
    obtain ⟨y, rfl, h⟩ := onInt_inv h
    obtain ⟨hs, h⟩ := if_inv h
    refine res2 h ?_; refine VR.intE ra fun _ => ?_; refine VR.intE rb fun _ => ?_
    simp only [Bool.and_eq_true, bne_iff_ne, ne_eq] at hs
    have := small_of hs.1
    exact floordiv_int hs.2 (CP.tok S (.int ..)) (.inl (PyProof.noPylong_small (by omega)))
  | Mod =>
    obtain ⟨x, rfl, h⟩ := onInt_inv h
    obtain ⟨y, rfl, h⟩ := onInt_inv h
    obtain ⟨hs, h⟩ := if_inv h
    refine res2 h ?_; refine VR.intE ra fun _ => ?_; refine VR.intE rb fun _ => ?_
    simp only [bne_iff_ne, ne_eq] at hs
    exact mod_int hs (CP.tok S (.int ..))
  | _ => exact nn h
end
end
end Mine
end
section
/-! Comparisons. -/
namespace Mine
open PySem PySem.Spec PySem.Calls PyProof.Rows PySem.SeqAt

theorem eqs_len {f : AV → AV → Option Bool} : ∀ {x y : List AV} {c : Bool}, eqs f x y = some c → x.length ≠ y.length → c = false
  | [], [], _, _, h => absurd rfl h
  | [], _ :: _, _, e, _ => by refine res1 e ?_; rfl
  | _ :: _, [], _, e, _ => by refine res1 e ?_; rfl
  | a :: r, b :: q, c, e, h => by
    unfold eqs at e
    split at e
    · rename_i x y h1 h2
      refine res1 e ?_
      rw [eqs_len h2 (fun z => h (by simp [z]))]
      exact Bool.and_false _
    · exact nn e
theorem eqs_all {f : AV → AV → Option Bool} : ∀ {x y : List AV} {c : Bool}, eqs f x y = some c → x.length = y.length →
    ∃ e : Nat → Bool, c = (List.range x.length).all e ∧ ∀ j a b, x[j]? = some a → y[j]? = some b → f a b = some (e j)
  | [], [], _, e, _ => by refine res1 e ?_; exact ⟨fun _ => true, rfl, fun j a b h _ => by simp at h⟩
  | [], _ :: _, _, _, h => by simp at h
  | _ :: _, [], _, _, h => by simp at h
  | a :: r, b :: q, c, e, h => by
    unfold eqs at e
    split at e
    · rename_i x y h1 h2
      refine res1 e ?_
      obtain ⟨e', hc, he⟩ := eqs_all h2 (by simpa using h)
      refine ⟨fun j => match j with | 0 => x | j + 1 => e' j, ?_, fun j a' b' ha hb => ?_⟩
      · rw [List.length_cons, List.range_succ_eq_map, List.all_cons, List.all_map, hc]
        rfl
      · cases j with
        | zero => simp at ha hb; subst ha hb; exact h1
        | succ j => exact he j a' b' (by simpa using ha) (by simpa using hb)
    · exact nn e
theorem eqs_each {f : AV → AV → Option Bool} : ∀ {x y : List AV} {c : Bool}, eqs f x y = some c → ∃ e : Nat → Bool, ∀ j a b, x[j]? = some a → y[j]? = some b → f a b = some (e j)
  | [], _, _, _ => ⟨fun _ => true, fun j a b h _ => by simp at h⟩
  | _ :: _, [], _, _ => ⟨fun _ => true, fun j a b _ h => by simp at h⟩
  | a :: r, b :: q, c, e => by
    unfold eqs at e
    split at e
    · rename_i x y h1 h2
      obtain ⟨e', he⟩ := eqs_each h2
      refine ⟨fun j => match j with | 0 => x | j + 1 => e' j, fun j a' b' ha hb => ?_⟩
      cases j with
      | zero => simp at ha hb; subst ha hb; exact h1
      | succ j => exact he j a' b' (by simpa using ha) (by simpa using hb)
    · exact nn e
theorem eqs_refl {f : AV → AV → Option Bool} (hf : ∀ a c, f a a = some c → c = true) : ∀ {x : List AV} {c : Bool}, eqs f x x = some c → c = true
  | [], _, e => by refine res1 e ?_; rfl
  | a :: r, c, e => by
    unfold eqs at e
    split at e
    · rename_i x y h1 h2
      refine res1 e ?_
      rw [hf a x h1, eqs_refl hf h2]; rfl
    · exact nn e
theorem eqB_refl {a : AV} {c : Bool} (h : eqB a a = some c) : c = true := by
  cases a with
  | int x => exact (Option.some.inj h).symm.trans (beq_self_eq_true x)
  | str x => exact (Option.some.inj h).symm.trans (beq_self_eq_true x)
  | _ => exact nn h
theorem eqR_refl {f : AV → AV → Option Bool} {H : AH} {j : Nat} {c : Bool} (hf : ∀ a c, f a a = some c → c = true) (h : eqR f H j j = some c) : c = true := by
  unfold eqR at h
  cases q : listAt H j with
  | some x => rw [q] at h; exact eqs_refl hf h
  | none =>
    rw [q] at h
    refine hide fun hG hF => ?_
    obtain ⟨x, h1, h⟩ := bind_inv h
    obtain ⟨y, h2, h⟩ := bind_inv h
    refine hF ?_
    clear hF hG
    rw [h1] at h2; cases h2
    exact eqs_refl hf h
theorem refOf_inv {a : AV} {j : Nat} (h : refOf a = some j) : a = .ref j := by
  cases a with
  | ref k => refine res1 h ?_; rfl
  | _ => exact nn h
theorem eqV_refl (H : AH) : ∀ (n : Nat) (a : AV) (c : Bool), eqV n H a a = some c → c = true
  | 0, _, _, h => eqB_refl h
  | n + 1, a, c, h => by
    unfold eqV at h
    cases q : refOf a with
    | none => rw [q] at h; exact eqB_refl h
    | some j =>
      obtain rfl := refOf_inv q
      exact eqR_refl (eqV_refl H n) h

section
variable {B : Bs} {ρ : List Addr} {s : Shared} {H : AH}
theorem VRs.get_elem {x : List AV} {vs : List Value} (r : VRs B ρ x vs) {j : Nat} (h : j < vs.toArray.size) : ∃ a, x[j]? = some a ∧ VR B ρ a vs.toArray[j] := by
  have h' : j < x.length := by rw [r.length]; simpa using h
  obtain ⟨u, h1, h2⟩ := r.get j x[j] (by simp [h'])
  refine ⟨x[j], by simp [h'], ?_⟩
  have : vs.toArray[j] = u := by
    have q : j < vs.length := by simpa using h
    rw [List.getElem?_eq_getElem q] at h1
    simpa using Option.some.inj h1
  rw [this]; exact h2
theorem ref_inj (S : St B ρ H s.heap) {j k : Nat} {a : Addr} (h1 : ρ[j]? = some a) (h2 : ρ[k]? = some a) : j = k := by
  obtain ⟨l1, e1⟩ := List.getElem?_eq_some_iff.mp h1
  obtain ⟨l2, e2⟩ := List.getElem?_eq_some_iff.mp h2
  exact (List.getElem_inj S.nodup).mp (e1.trans e2.symm)

theorem eqB_ok {A : Around} {a b : AV} {ua ub : Value} {c : Bool} (h : eqB a b = some c) (ra : VR B ρ a ua) (rb : VR B ρ b ub) : EqAt A s ua ub c ∧ ∀ la lb, ua = .ref la → ub = .ref lb → RcAt A s ua ub c ∧ RcNeAt A s ua ub (!c) := by
  cases ra with
  | int => obtain ⟨y, rfl, h⟩ := onInt_inv h; refine res1 h ?_; refine VR.intE rb fun _ => ?_; exact ⟨EqAt.int_int _ _ _ _, fun _ _ e => by cases e⟩
  | str => obtain ⟨y, rfl, h⟩ := onStr_inv h; refine res1 h ?_; refine VR.strE rb fun _ => ?_; exact ⟨EqAt.str_str _ _ _ _, fun _ _ e => by cases e⟩
  | _ => exact nn h
/-- the parts' equality, as known of one step less -/
noncomputable def EqOk (B : Bs) (ρ : List Addr) (s : Shared) (A : Around) (f : AV → AV → Option Bool) : Prop := ∀ (a b : AV) (ua ub : Value) (c : Bool), f a b = some c → VR B ρ a ua → VR B ρ b ub → EqAt A s ua ub c
theorem eq_parts {A : Around} {f : AV → AV → Option Bool} {x y : List AV} {vs ws : List Value} {e : Nat → Bool} (ih : EqOk B ρ s A f) (r1 : VRs B ρ x vs) (r2 : VRs B ρ y ws) (he : ∀ j a b, x[j]? = some a → y[j]? = some b → f a b = some (e j)) :
    ∀ j (h1 : j < vs.toArray.size) (h2 : j < ws.toArray.size), EqAt A s vs.toArray[j] ws.toArray[j] (e j) := fun j q1 q2 => by
  obtain ⟨p1, z1, w1⟩ := r1.get_elem q1
  obtain ⟨p2, z2, w2⟩ := r2.get_elem q2
  exact ih p1 p2 _ _ _ (he j p1 p2 z1 z2) w1 w2
theorem eqL_ok {A : Around} {f : AV → AV → Option Bool} {x y : List AV} {vs ws : List Value} {a b : Addr} {c : Bool} (ih : EqOk B ρ s A.in1 f) (hu : A.units < cLine) (h : eqs f x y = some c) (l1 : s.heap.IsList a vs.toArray) (l2 : s.heap.IsList b ws.toArray) (r1 : VRs B ρ x vs) (r2 : VRs B ρ y ws) :
    RcAt A s (.ref a) (.ref b) c ∧ RcNeAt A s (.ref a) (.ref b) (!c) := by
  by_cases hl : x.length = y.length
  · obtain ⟨e, hc, he⟩ := eqs_all h hl
    have hsz : vs.toArray.size = ws.toArray.size := by simp [← r1.length, ← r2.length, hl]
    have hx : x.length = vs.toArray.size := by simp [r1.length]
    rw [hx] at hc
    have hall := eq_parts ih r1 r2 he
    rw [hc]
    exact ⟨RcAt.lists l1 l2 hsz hu hall, RcNeAt.lists l1 l2 hsz hu hall⟩
  · have hc := eqs_len h hl
    subst hc
    have hsz : (vs.toArray.size != ws.toArray.size) = true := by simp [← r1.length, ← r2.length, hl]
    exact ⟨RcAt.lists_lengths l1 l2 hsz hu, RcNeAt.lists_lengths l1 l2 hsz hu⟩
theorem eqT_ok {A : Around} {f : AV → AV → Option Bool} {x y : List AV} {vs ws : List Value} {a b : Addr} {c : Bool} (ih : EqOk B ρ s A.in1 f) (hu : A.units < cLine) (h : eqs f x y = some c) (l1 : s.heap.IsTuple a vs.toArray) (l2 : s.heap.IsTuple b ws.toArray) (r1 : VRs B ρ x vs) (r2 : VRs B ρ y ws) :
    RcAt A s (.ref a) (.ref b) c ∧ RcNeAt A s (.ref a) (.ref b) (!c) := by
  by_cases hl : x.length = y.length
  · obtain ⟨e, hc, he⟩ := eqs_all h hl
    have hsz : vs.toArray.size = ws.toArray.size := by simp [← r1.length, ← r2.length, hl]
    have hx : x.length = vs.toArray.size := by simp [r1.length]
    rw [hx] at hc
    have hall := eq_parts ih r1 r2 he
    have t1 := RcAt.tuples l1 l2 hu hall
    have t2 := RcNeAt.tuples l1 l2 hu hall
    rw [← hsz, Nat.min_self, beq_self_eq_true, Bool.and_true, ← hc] at t1 t2
    exact ⟨t1, t2⟩
  · have hc := eqs_len h hl
    subst hc
    obtain ⟨e, he⟩ := eqs_each h
    have hsz : (vs.toArray.size == ws.toArray.size) = false := by simp [← r1.length, ← r2.length, hl]
    have hall := eq_parts ih r1 r2 he
    have t1 := RcAt.tuples l1 l2 hu hall
    have t2 := RcNeAt.tuples l1 l2 hu hall
    rw [hsz, Bool.and_false] at t1 t2
    exact ⟨t1, t2⟩
theorem eqR_ok (S : St B ρ H s.heap) {A : Around} {f : AV → AV → Option Bool} {j k : Nat} {a b : Addr} {c : Bool} (ih : EqOk B ρ s A.in1 f) (hu : A.units < cLine) (h : eqR f H j k = some c) (ha : ρ[j]? = some a) (hb : ρ[k]? = some b) :
    RcAt A s (.ref a) (.ref b) c ∧ RcNeAt A s (.ref a) (.ref b) (!c) := by
  unfold eqR at h
  cases q : listAt H j with
  | some x =>
    rw [q] at h
    obtain ⟨y, h2, h⟩ := bind_inv h
    obtain ⟨o1, g1, vs, n1, rfl, r1⟩ := S.at_ (listAt_inv q) ha
    obtain ⟨o2, g2, ws, n2, rfl, r2⟩ := S.at_ (listAt_inv h2) hb
    exact eqL_ok ih hu h ⟨_, g1, rfl, n1, rfl⟩ ⟨_, g2, rfl, n2, rfl⟩ r1 r2
  | none =>
    rw [q] at h
    obtain ⟨x, h1, h⟩ := bind_inv h
    obtain ⟨y, h2, h⟩ := bind_inv h
    obtain ⟨o1, g1, vs, n1, rfl, r1⟩ := S.at_ (tupAt_inv h1) ha
    obtain ⟨o2, g2, ws, n2, rfl, r2⟩ := S.at_ (tupAt_inv h2) hb
    exact eqT_ok ih hu h ⟨_, g1, rfl, n1, rfl⟩ ⟨_, g2, rfl, n2, rfl⟩ r1 r2
theorem eqV_ok (S : St B ρ H s.heap) : ∀ (n : Nat) (A : Around) (a b : AV) (ua ub : Value) (c : Bool), A.units + n < cLine → eqV n H a b = some c → VR B ρ a ua → VR B ρ b ub →
    EqAt A s ua ub c ∧ (∀ la lb, ua = .ref la → ub = .ref lb → RcAt A s ua ub c ∧ RcNeAt A s ua ub (!c))
  | 0, A, a, b, ua, ub, c, hu, h, ra, rb => eqB_ok h ra rb
  | n + 1, A, a, b, ua, ub, c, hu, h, ra, rb => by
    unfold eqV at h
    cases q : refOf a with
    | none => rw [q] at h; exact eqB_ok h ra rb
    | some j =>
      obtain rfl := refOf_inv q
      obtain ⟨k, rfl, h⟩ := onRef_inv h
      cases ra with | ref ha => cases rb with | ref hb =>
      have key := eqR_ok S (A := A) (fun a b ua ub c h ra rb => (eqV_ok S n A.in1 a b ua ub c (by rw [units_in1]; omega) h ra rb).1) (by omega) h ha hb
      refine ⟨?_, fun la lb e1 e2 => key⟩
      rename_i x y
      by_cases hne : x = y
      · subst hne
        have := ref_inj S ha hb
        subst this
        have hc : c = true := eqR_refl (eqV_refl H n) h
        rw [hc]; exact EqAt.same _
      · exact EqAt.of_refs hne key.1

theorem drs_keys {l : List (Int × Int)} {kvs : List (Int × Value)} (h : DRs l kvs) : kvs.map (·.1) = l.map (·.1) := by
  induction h with
  | nil => rfl
  | cons _ ih => simp [ih]
theorem drs_look {l : List (Int × Int)} {kvs : List (Int × Value)} (h : DRs l kvs) : ∀ k, (l.lookup k = none → valueAt kvs k = none) ∧ ∀ i, l.lookup k = some i → ∃ t, valueAt kvs k = some (.int i t) := by
  induction h with
  | nil => exact fun k => ⟨fun _ => rfl, fun i h => by simp at h⟩
  | @cons k v u l es _ ih =>
    intro j
    unfold valueAt
    rw [List.find?_cons, List.lookup_cons]
    by_cases q : j = k
    · subst q
      simp only [beq_self_eq_true, decide_true]
      exact ⟨fun h => (by cases h), fun i h => (by cases h; exact ⟨u, rfl⟩)⟩
    · have q1 : (j == k) = false := by simpa using q
      have q2 : decide (k = j) = false := by simpa using fun z => q z.symm
      simp only [q1, q2]
      exact ih j
theorem dict_at' (G : Gd B) (S : St B ρ H s.heap) {k : Nat} {l : List (Int × Int)} {a : Addr} (e : H[k]? = some (.dict l)) (ha : ρ[k]? = some a) :
    (a == sysModules) = false ∧ ∃ kvs, s.heap.DictAt (intKind Challenge.pw_rl0083_01 B.w) a kvs l.length ∧ DRs l kvs := by
  refine hide fun hG hF => ?_
  obtain ⟨o, h2, es, kvs, hc, hd, hk, hp, r, hn⟩ := S.at_ e ha
  refine hF ?_
  clear hF hG
  refine ⟨?_, kvs, ⟨_, es, h2, hc, hd, hk, hp, by rw [drs_keys r]; exact hn⟩, r⟩
  obtain ⟨o', ho'⟩ := G.sys
  have := S.fresh a (List.mem_of_getElem? ha)
  simp only [beq_eq_false_iff_ne, ne_eq]
  intro q
  rw [q, ho'] at this; cases this
theorem dict_at (G : Gd B) (S : St B ρ H s.heap) {k : Nat} {l : List (Int × Int)} {a : Addr} (e : H[k]? = some (.dict l)) (ha : ρ[k]? = some a) :
    (a == sysModules) = false ∧ ∃ kvs, s.heap.DictAt (intKind Challenge.pw_rl0083_01 B.w) a kvs l.length ∧ kvs.map (·.1) = l.map (·.1) ∧ (∀ k, (l.lookup k = none → valueAt kvs k = none) ∧ ∀ i, l.lookup k = some i → ∃ t, valueAt kvs k = some (.int i t)) := by
  obtain ⟨h1, kvs, h2, r⟩ := dict_at' G S e ha
  exact ⟨h1, kvs, h2, drs_keys r, drs_look r⟩

theorem dict_of (G : Gd B) (S : St B ρ H s.heap) {k : Nat} {l : List (Int × Int)} {a : Addr} (e : H[k]? = some (.dict l)) (ha : ρ[k]? = some a) :
    (a == sysModules) = false ∧ ∃ kvs, s.heap.DictOf (intKind Challenge.pw_rl0083_01 B.w) a kvs ∧ kvs.map (·.1) = l.map (·.1) ∧ (∀ k, (l.lookup k = none → valueAt kvs k = none) ∧ ∀ i, l.lookup k = some i → ∃ t, valueAt kvs k = some (.int i t)) := by
  obtain ⟨h1, kvs, h2, h3, h4⟩ := dict_at G S e ha
  exact ⟨h1, kvs, h2.dictOf, h3, h4⟩
theorem is_plain_none (i : Int) (t : Tok) : plainIs (.int i t) .none = true := rfl
section
variable {A : Around} {a b : AV} {ua ub : Value} {c : Bool}
/-- what a comparison gives -/
noncomputable def CB (s : Shared) (c : Bool) : Value → Shared → Prop := fun u s' => u = .bool c ∧ ∃ tk, s' = { s with toks := tk }
theorem CB.at (s : Shared) (c : Bool) : CB s c (.bool c) s := ⟨rfl, s.toks, rfl⟩
theorem emptyAt_inv {H : AH} {k : Nat} (h : emptyAt H k = true) : H[k]? = some (.dict []) := by
  unfold emptyAt at h
  cases q : dictAt H k with
  | none => rw [q] at h; exact ff h
  | some l =>
    rw [q] at h
    cases l with
    | nil => exact dictAt_inv q
    | cons _ _ => exact ff h
theorem eqD_ok {j k : Nat} {x : List (Int × Int)} {a b : Addr} (G : Gd B) (hu : A.units + 3 < cLine) (S : St B ρ H s.heap) (h1 : H[j]? = some (.dict x)) (h2 : H[k]? = some (.dict [])) (ha : ρ[j]? = some a) (hb : ρ[k]? = some b) :
    wpAny (MM B) A (compareOp .Eq (.ref a) (.ref b)) (CB s x.isEmpty) never s := by
  refine hide fun hG hF => ?_
  obtain ⟨na, ka, da, ea, _⟩ := dict_of G S h1 ha
  obtain ⟨nb, kb, db, eb, _⟩ := dict_of G S h2 hb
  refine hF ?_
  clear hF hG
  have hb0 : kb = [] := by simpa using congrArg List.length eb
  subst hb0
  have la : ka.length = x.length := by simpa using congrArg List.length ea
  refine W.keq_eq (r := true) na nb da db (by omega) (fun q => ?_) ⟨?_, _, rfl⟩
  · have : ka = [] := by simpa using q
    subst this; exact .nil
  · cases x with
    | nil => simp at la; subst la; rfl
    | cons p r => simp at la; simp [la]
theorem eqOp_ok (G : Gd B) (hu : A.units + 3 < cLine) (h : eqOp a b H = some c) (S : St B ρ H s.heap) (ra : VR B ρ a ua) (rb : VR B ρ b ub) : wpAny (MM B) A (compareOp .Eq ua ub) (CB s c) never s := by
  cases ra with
  | int => obtain ⟨y, rfl, h⟩ := onInt_inv h; refine res1 h ?_; refine VR.intE rb fun _ => ?_; exact eq_int (CB.at ..)
  | str => obtain ⟨y, rfl, h⟩ := onStr_inv h; refine res1 h ?_; refine VR.strE rb fun _ => ?_; exact eq_str (CB.at ..)
  | bool => obtain ⟨y, rfl, h⟩ := onBool_inv h; refine res1 h ?_; refine VR.boolE rb ?_; exact eq_bool (CB.at ..)
  | flt => obtain ⟨y, rfl, h⟩ := onFlt_inv h; refine res1 h ?_; refine VR.fltE rb fun _ => ?_; exact AutoFloatOps.eq_0 (CB.at ..)
  | @ref j x ha =>
    obtain ⟨k, rfl, h'⟩ := onRef_inv h
    cases rb with | ref hb =>
    by_cases q : emptyAt H k = true
    · rw [if_pos q] at h'
      obtain ⟨z, h1, rfl⟩ := map_inv h'
      exact eqD_ok G hu S (dictAt_inv h1) (emptyAt_inv q) ha hb
    · rw [if_neg q] at h'
      exact ((eqV_ok S 3 A _ _ _ _ c hu h' (.ref ha) (.ref hb)).2 _ _ rfl rfl).1 _ _ _ _ (CB.at ..)
  | none => exact nn h
  | scr => exact nn h
theorem neOp_ok (hu : A.units + 3 < cLine) (h : neOp a b H = some c) (S : St B ρ H s.heap) (ra : VR B ρ a ua) (rb : VR B ρ b ub) : wpAny (MM B) A (compareOp .NotEq ua ub) (CB s c) never s := by
  cases ra with
  | int => obtain ⟨y, rfl, h⟩ := onInt_inv h; refine res1 h ?_; refine VR.intE rb fun _ => ?_; exact ne_int (CB.at ..)
  | str => obtain ⟨y, rfl, h⟩ := onStr_inv h; refine res1 h ?_; refine VR.strE rb fun _ => ?_; exact ne_str (CB.at ..)
  | bool => obtain ⟨y, rfl, h⟩ := onBool_inv h; refine res1 h ?_; refine VR.boolE rb ?_; exact ne_bool (CB.at ..)
  | ref ha =>
    obtain ⟨k, rfl, h1⟩ := onRef_inv h
    cases rb with | ref hb =>
    unfold neg? at h1
    split at h1
    · rename_i c' h'
      refine res1 h1 ?_
      exact ((eqV_ok S 3 A _ _ _ _ _ hu h' (.ref ha) (.ref hb)).2 _ _ rfl rfl).2 _ _ _ _ (CB.at ..)
    · exact nn h1
  | flt => exact nn h
  | none => exact nn h
  | scr => exact nn h
theorem isOp_ok (h : isOp a b = some c) (ra : VR B ρ a ua) (rb : VR B ρ b ub) : wpAny (MM B) A (compareOp .Is ua ub) (CB s c) never s := by
  cases ra with
  | none =>
    obtain ⟨q, h⟩ := if_inv h
    obtain rfl := isNone_of q
    refine res1 h ?_; refine VR.noneE rb ?_; exact wpAny_is_self rfl (CB.at ..)
  | int =>
    obtain ⟨q, h⟩ := if_inv h
    obtain rfl := isNone_of q
    refine res1 h ?_; refine VR.noneE rb ?_; exact wpAny_is_other rfl (fun q => nomatch q) (CB.at ..)
  | bool x =>
    obtain ⟨y, rfl, h⟩ := onBool_inv h
    refine res1 h ?_; refine VR.boolE rb ?_
    refine wpAny_is_plain rfl ⟨?_, _, rfl⟩
    cases x <;> cases y <;> rfl
  | _ => exact nn h
theorem cmpop_ok {n : Nat} {op : CmpOp} (G : Gd B) (ft : Fit n A) (h : cmpop op a b H = some c) (S : St B ρ H s.heap) (ra : VR B ρ a ua) (rb : VR B ρ b ub) :
    wpAny (MM B) A (compareOp op ua ub) (fun u s' => u = .bool c ∧ ∃ tk, s' = { s with toks := tk }) never s := by
  have hu : A.units + 3 < cLine := by have := ft.units; have := cLine_is; omega
  cases op with
  | Eq => exact eqOp_ok G hu h S ra rb
  | NotEq => exact neOp_ok hu h S ra rb
  | Is => exact isOp_ok h ra rb
  | Lt => obtain ⟨x, rfl, h⟩ := onInt_inv h; obtain ⟨y, rfl, h⟩ := onInt_inv h; refine res1 h ?_; refine VR.intE ra fun _ => ?_; refine VR.intE rb fun _ => ?_; exact lt_int (CB.at ..)
  | LtE => obtain ⟨x, rfl, h⟩ := onInt_inv h; obtain ⟨y, rfl, h⟩ := onInt_inv h; refine res1 h ?_; refine VR.intE ra fun _ => ?_; refine VR.intE rb fun _ => ?_; exact PyProof.Rows.le_int (CB.at ..)
  | Gt => obtain ⟨x, rfl, h⟩ := onInt_inv h; obtain ⟨y, rfl, h⟩ := onInt_inv h; refine res1 h ?_; refine VR.intE ra fun _ => ?_; refine VR.intE rb fun _ => ?_; exact gt_int (CB.at ..)
  | GtE => obtain ⟨x, rfl, h⟩ := onInt_inv h; obtain ⟨y, rfl, h⟩ := onInt_inv h; refine res1 h ?_; refine VR.intE ra fun _ => ?_; refine VR.intE rb fun _ => ?_; exact PyProof.Rows.ge_int (CB.at ..)
  | IsNot =>
    obtain ⟨x, rfl, h⟩ := onBool_inv h; obtain ⟨y, rfl, h⟩ := onBool_inv h; refine res1 h ?_; refine VR.boolE ra ?_; refine VR.boolE rb ?_
    refine wpAny_isNot_plain rfl ⟨?_, _, rfl⟩
    cases x <;> cases y <;> rfl
  | In => obtain ⟨x, rfl, h⟩ := onStr_inv h; obtain ⟨y, rfl, h⟩ := onStr_inv h; refine res1 h ?_; refine VR.strE ra fun _ => ?_; refine VR.strE rb fun _ => ?_; exact in_str (CB.at ..)
  | NotIn => obtain ⟨x, rfl, h⟩ := onStr_inv h; obtain ⟨y, rfl, h⟩ := onStr_inv h; refine res1 h ?_; refine VR.strE ra fun _ => ?_; refine VR.strE rb fun _ => ?_; exact notIn_str (CB.at ..)
end
end
end Mine
end
section
/-! Items and cuts. -/
namespace Mine
open PySem PySem.Spec PySem.Calls PyProof.Rows

theorem subs_plain {b : Expr} (hb : ∀ lo hi st p, b ≠ .Slice lo hi st p) (o i : Value) : subscripted b false o i = operate [o, i] (PySem.getItem o i) := by
  unfold subscripted
  split
  · exact absurd rfl (hb _ _ _ _)
  · contradiction
  · rfl
theorem subs_slice (lo hi st : Option Expr) (p : Pos) (o i : Value) : ∃ ops, subscripted (.Slice lo hi st p) false o i = operate ops (PySem.getItem o i) := by
  cases st with
  | none => exact ⟨[i, o], rfl⟩
  | some e => exact ⟨[o, i], rfl⟩

theorem seqIndex_pos {i : Int} {n : Nat} (h0 : 0 ≤ i) (h : i.toNat < n) : seqIndex? i n = some i.toNat := by
  unfold seqIndex?
  have h1 : ¬ i < 0 := by omega
  simp only [if_neg h1]
  rw [if_pos]
  simp only [Bool.and_eq_true, decide_eq_true_eq]
  omega

section
variable {B : Bs} {ρ : List Addr} {s : Shared} {H H' : AH} {A : Around} {v : AV}
theorem tail_ok {value slice : Expr} {a : AV} {ua ui : Value} {Q : Value → Shared → Prop} {T id : String} {ops : List Value} (hT : s.TypeIs ua T) (hl : typeLookup (.type T) "__getitem__" = pure (some (.builtin id)))
    (hs : subscripted slice false ua ui = operate ops (PySem.getItem ua ui)) (hg : wpAny (MM B) A (PySem.getItem ua ui) Q never s) : wpAny (MM B) A (subscriptTail value slice ua ui) Q never s := by
  have _ := a
  exact tail_any hT hl hg hs

theorem VRs.filterMap {x : List AV} {vs : List Value} (r : VRs B ρ x vs) : ∀ js : List Nat, VRs B ρ (js.filterMap (x[·]?)) (js.filterMap (vs[·]?))
  | [] => .nil
  | j :: js => by
    have ih := VRs.filterMap r js
    cases hx : x[j]? with
    | none =>
      have hv : vs[j]? = none := by
        have : x.length ≤ j := by simpa using hx
        rw [r.length] at this
        simpa using this
      rw [List.filterMap_cons_none hx, List.filterMap_cons_none hv]; exact ih
    | some a =>
      obtain ⟨u, h1, h2⟩ := r.get j a hx
      rw [List.filterMap_cons_some hx, List.filterMap_cons_some h1]; exact .cons h2 ih
theorem VRs.pick {x : List AV} {vs : List Value} (r : VRs B ρ x vs) (lo hi st : Option Int) : slicePick vs.toArray lo hi st = (pickL vs lo hi st).toArray ∧ VRs B ρ (pickL x lo hi st) (pickL vs lo hi st) := by
  refine ⟨?_, ?_⟩
  · unfold slicePick pickL
    simp
  · unfold pickL
    rw [r.length]
    exact r.filterMap _
theorem vrs_ints {vs : List Value} {ns : List Int} (h : IntsAre vs ns) : VRs B ρ (ns.map .int) vs := by
  induction h with
  | nil => exact .nil
  | cons => rename_i ih; exact .cons (.int ..) ih

theorem getRef_ok {value slice : Expr} {k : Nat} {i : Int} {t : Tok} {a' : Addr} (G : Gd B) (hb : ∀ lo hi st p, slice ≠ .Slice lo hi st p) (h : getRef H k i = some (v, H')) (hs : small i = true) (S : St B ρ H s.heap) (ha : ρ[k]? = some a') :
    wpAny (MM B) A (subscriptTail value slice (.ref a') (.int i t)) (CP B ρ s v H') never s := by
  have hsm := small_of hs
  unfold getRef at h
  cases hl : H[k]? with
  | none => rw [hl] at h; exact nn h
  | some o =>
    rw [hl] at h
    cases o with
    | list l =>
      obtain ⟨h0, h⟩ := if_inv h
      obtain ⟨x, hx, e⟩ := map_inv h
      cases e
      obtain ⟨o, g, vs, m, rfl, r⟩ := S.at_ hl ha
      obtain ⟨u, hu, ru⟩ := r.get _ _ hx
      exact tail_ok (a := v) (T := "list") ⟨_, g, rfl⟩ PySem.slot_list_getitem.lookup (subs_plain hb _ _) (wpAny_getItem_list ⟨_, g, rfl, m, rfl⟩ h0 (by omega) (by simpa using hu) (CP.same S ru))
    | tup l =>
      obtain ⟨h0, h⟩ := if_inv h
      obtain ⟨x, hx, e⟩ := map_inv h
      cases e
      obtain ⟨o, g, vs, m, rfl, r⟩ := S.at_ hl ha
      obtain ⟨u, hu, ru⟩ := r.get _ _ hx
      have hlt : i.toNat < vs.length := (List.getElem?_eq_some_iff.mp hu).1
      refine tail_ok (a := v) (T := "tuple") ⟨_, g, rfl⟩ PyProof.Rows.slot_tuple_getitem.lookup (subs_plain hb _ _) (getItem_tuple (j := i.toNat) ⟨_, g, rfl, m, rfl⟩ (by omega) (by omega) ?_ (by simpa using hu) (CP.same S ru))
      rw [List.size_toArray]
      exact seqIndex_pos h0 hlt
    | dict l =>
      obtain ⟨x, hx, e⟩ := map_inv h
      cases e
      obtain ⟨_, kvs, d, _, hf⟩ := dict_of G S hl ha
      obtain ⟨t, ht⟩ := (hf i).2 x hx
      exact tail_ok (a := .none) (T := "dict") d.typeIs PySem.F.slot_dict_getitem.lookup (subs_plain hb _ _) (wpAny_getItem_of (intKind_is _ _ _ _) d.mapOf ht (CP.tok S (.int ..)))
    | inst _ => exact nn h
    | attrs _ => exact nn h
theorem getItem_ok {n : Nat} {value slice : Expr} {a b : AV} {ua ub : Value} (G : Gd B) (ft : Fit n A) (hb : ∀ lo hi st p, slice ≠ .Slice lo hi st p) (h : getItem a b H = some (v, H')) (S : St B ρ H s.heap) (ra : VR B ρ a ua) (rb : VR B ρ b ub) :
    wpAny (MM B) A (subscriptTail value slice ua ub) (CP B ρ s v H') never s := by
  cases ra with
  | ref ha =>
    obtain ⟨i, rfl, h⟩ := onInt_inv h
    obtain ⟨hs, h⟩ := if_inv h
    refine VR.intE rb fun _ => ?_
    exact getRef_ok G hb h hs S ha
  | str x t =>
    obtain ⟨i, rfl, h⟩ := onInt_inv h
    obtain ⟨hs, h⟩ := if_inv h
    have hsm := small_of hs
    obtain ⟨c, hc, e⟩ := map_inv h
    cases e
    refine VR.intE rb fun _ => ?_
    exact tail_ok (a := .none) (T := "str") (typeIs_str s x _) PySem.F.slot_str_getitem.lookup (subs_plain hb _ _) (PySem.P.getItem_str (by simp only [Bool.or_eq_false_iff, decide_eq_false_iff_not]; omega) hc (CP.tok S (.str ..)))
  | _ => exact nn h

noncomputable def PR (B : Bs) (ρ : List Addr) (o : Option AV) (u : Value) : Prop := match o with
  | none => u = .none
  | some a => VR B ρ a u
theorem PR.part {o : Option AV} {u : Value} {k : Option Int} (r : PR B ρ o u) (h : partOf o = some k) : IsPart u k := by
  cases o with
  | none => refine res1 h ?_; cases r; exact .none
  | some a =>
    obtain ⟨i, rfl, h⟩ := onInt_inv h
    refine res1 h ?_; refine VR.intE r fun _ => ?_; exact .int _ _
theorem part_value {u : Value} {k : Option Int} (h : IsPart u k) : ∃ l : Option (Int × Tok), u = partValue l ∧ l.map (·.1) = k := by
  cases h with
  | none => exact ⟨none, rfl, rfl⟩
  | int i t => exact ⟨some (i, t), rfl, rfl⟩

theorem sliceL_ok {value : Expr} {elo ehi est : Option Expr} {p : Pos} {lo hi st : Option Int} {vl vh vs : Value} {a sl : Addr} {l : List AV} {vs' : List Value} (h0 : ¬ st = some 0) (S : St B ρ H s.heap)
    (hl' : s.heap.IsList a vs'.toArray) (r : VRs B ρ l vs') (hz : vs'.length ≤ sizeLine) (hsl : s.heap.IsSliceOf sl vl vh vs) (e1 : IsPart vl lo) (e2 : IsPart vh hi) (e3 : IsPart vs st) :
    wpAny (MM B) A (subscriptTail value (.Slice elo ehi est p) (.ref a) (.ref sl)) (CP B ρ s (.ref H.length) (H ++ [.list (pickL l lo hi st)])) never s := by
  obtain ⟨ops, hops⟩ := subs_slice elo ehi est p (.ref a) (.ref sl)
  obtain ⟨q1, q2⟩ := r.pick lo hi st
  refine tail_ok (a := .none) (T := "list") hl'.typeIs PySem.slot_list_getitem.lookup hops (wpAny_getItem_list_slice hl' hsl e1 e2 e3 h0 ?_ ?_)
  · rw [q1]
    exact CP.push (ao := .list _) (tk := s.toks) S fun ρ' hp => ⟨_, 0, rfl, q2.mono hp⟩
  · rw [List.size_toArray]; exact hz
theorem sliceS_ok {value : Expr} {elo ehi est : Option Expr} {p : Pos} {lo hi st : Option Int} {vl vh vs : Value} {sl : Addr} {x : Str} {t : Tok} (h0 : ¬ st = some 0) (S : St B ρ H s.heap) (hsz : sizeOk x.length = true)
    (hsl : s.heap.IsSliceOf sl vl vh vs) (e1 : IsPart vl lo) (e2 : IsPart vh hi) (e3 : IsPart vs st) :
    wpAny (MM B) A (subscriptTail value (.Slice elo ehi est p) (.str x t) (.ref sl)) (CP B ρ s (.str (pickS x lo hi st)) H) never s := by
  obtain ⟨ops, hops⟩ := subs_slice elo ehi est p (.str x t) (.ref sl)
  obtain ⟨l1, rfl, m1⟩ := part_value e1
  obtain ⟨l2, rfl, m2⟩ := part_value e2
  obtain ⟨l3, rfl, m3⟩ := part_value e3
  have hz : ((l3.map (·.1)).getD 1 == 0) = false := by
    rw [m3]
    cases st with
    | none => rfl
    | some k => simp only [Option.getD_some, beq_eq_false_iff_ne, ne_eq]; exact fun q => h0 (by rw [q])
  refine tail_ok (a := .none) (T := "str") (typeIs_str s x _) PySem.F.slot_str_getitem.lookup hops (wpAny_getItem_str_slice (l := l1) (u := l2) (st := l3) hsl hz ?_)
  unfold sliceMade slicePicked pickS
  rw [m1, m2, m3]
  split
  · exact CP.same S (.str ..)
  · refine ⟨?_, CP.tok S (.str ..)⟩
    have hz' : st.getD 1 ≠ 0 := by rw [m3] at hz; simpa using hz
    have b1 := sliceIndicesBy_le lo hi (st.getD 1) hz' x.length
    have b2 := size_line hsz
    show (List.toArray _).size ≤ sizeLine
    rw [List.size_toArray]
    exact Nat.le_trans (List.length_filterMap_le ..) (Nat.le_trans b1 b2)
theorem getSlice_ok {n : Nat} {value : Expr} {elo ehi est : Option Expr} {p : Pos} {a : AV} {lo hi st : Option AV} {ua vl vh vs : Value} {sl : Addr} (G : Gd B) (ft : Fit n A) (h : getSlice B.ns a lo hi st H = some (v, H')) (S : St B ρ H s.heap)
    (ra : VR B ρ a ua) (hsl : s.heap.IsSliceOf sl vl vh vs) (rl : PR B ρ lo vl) (rh : PR B ρ hi vh) (rs : PR B ρ st vs) :
    wpAny (MM B) A (subscriptTail value (.Slice elo ehi est p) ua (.ref sl)) (CP B ρ s v H') never s := by
  obtain ⟨lo', e1, h⟩ := bind_inv h
  obtain ⟨hi', e2, h⟩ := bind_inv h
  obtain ⟨st', e3, h⟩ := bind_inv h
  obtain ⟨h0, h⟩ := if_inv h
  cases ra with
  | scr =>
    obtain ⟨vs', hl, hi⟩ := G.scr
    refine res2 h ?_
    exact sliceL_ok h0 S (hl.at fun o e => S.keep _ o e) (vrs_ints hi) (by have := G.few; rw [hi.length, sizeLine_eq]; omega) hsl (rl.part e1) (rh.part e2) (rs.part e3)
  | ref ha =>
    obtain ⟨l, hl, h⟩ := bind_inv h
    obtain ⟨hsz, h⟩ := if_inv h
    obtain ⟨vs', m, g, r⟩ := list_at S hl ha
    refine res2 h ?_
    exact sliceL_ok h0 S ⟨_, g, rfl, m, rfl⟩ r (by have := size_line hsz; rw [← r.length]; exact this) hsl (rl.part e1) (rh.part e2) (rs.part e3)
  | str x t =>
    obtain ⟨hsz, h⟩ := if_inv h
    refine res2 h ?_
    exact sliceS_ok h0 S hsz hsl (rl.part e1) (rh.part e2) (rs.part e3)
  | _ => exact nn h
end
end Mine
end
section
/-! The built-in functions. -/
namespace Mine
open PySem PySem.Spec PySem.Calls PyProof.Rows

section
variable {B : Bs} {ρ : List Addr} {s : Shared} {H H' : AH} {A : Around} {v : AV}
theorem CP.keeps {u : Value} {h' : Heap} {tk : Nat} (S : St B ρ H s.heap) (hk : ∀ b o, s.heap.get? b = some o → h'.get? b = some o) (r : VR B ρ v u) : CP B ρ s v H u { s with heap := h', toks := tk } :=
  ⟨ρ, Ext.keeps hk, S.keeps hk, r⟩
theorem ints_are {x : List AV} {vs : List Value} {ns : List Int} (r : VRs B ρ x vs) (h : ints? x = some ns) : IntsAre vs ns := by
  induction r generalizing ns with
  | nil => refine res1 h ?_; exact .nil
  | @cons a u l vs ha _ ih =>
    cases a with
    | int i =>
      simp only [ints?] at h
      obtain ⟨ns', h1, h2⟩ := Option.map_eq_some_iff.mp h
      cases ha
      subst h2
      exact .cons _ _ (ih h1)
    | _ => simp [ints?] at h
theorem total_eq : ∀ l : List Int, total l = l.sum
  | [] => rfl
  | x :: r => by rw [total, total_eq r, List.sum_cons]
theorem most_le : ∀ (m : Int) (l : List Int), m ≤ most m l ∧ (∀ a ∈ l, a ≤ most m l) ∧ (most m l = m ∨ most m l ∈ l)
  | m, [] => ⟨Int.le_refl _, fun _ h => (by cases h), .inl rfl⟩
  | m, x :: r => by
    obtain ⟨h1, h2, h3⟩ := most_le (if m < x then x else m) r
    refine ⟨?_, fun a ha => ?_, ?_⟩
    · unfold most; split at h1 <;> rename_i q <;> simp only [q, if_true, if_false] <;> omega
    · unfold most
      rcases List.mem_cons.mp ha with rfl | ha
      · split at h1 <;> rename_i q <;> simp only [q, if_true, if_false] <;> omega
      · exact h2 a ha
    · unfold most
      rcases h3 with h3 | h3
      · rw [h3]
        split
        · exact .inr (.head _)
        · exact .inl rfl
      · exact .inr (.tail _ h3)
theorem most_is {x M : Int} {r : List Int} (h1 : M ∈ x :: r) (h2 : ∀ a, a ∈ x :: r → a ≤ M) : M = most x r := by
  obtain ⟨g1, g2, g3⟩ := most_le x r
  have a1 : most x r ≤ M := by
    rcases g3 with q | q
    · rw [q]; exact h2 x (.head _)
    · exact h2 _ (.tail _ q)
  have a2 : M ≤ most x r := by
    rcases List.mem_cons.mp h1 with q | q
    · rw [q]; exact g1
    · exact g2 M q
  omega
theorem max_of {l : Addr} {vs : List Value} {x : Int} {r : List Int} {Q : Value → Shared → Prop} (hh : A.handled = none) (hl : s.heap.IsList l vs.toArray) (hi : IntsAre vs (x :: r))
    (h : ∀ h' t tk, (∀ b o, s.heap.get? b = some o → h'.get? b = some o) → Q (.int (most x r) t) { s with heap := h', toks := tk }) : wpAny (MM B) A (call (.builtin "max") [.ref l]) Q never s := by
  obtain ⟨xs, e⟩ := hi.allInts.items
  have hns : x :: r = xs.toList.map (·.1) := by rw [← hi.numsOf, ← nums_intItems, ← e]
  have hsz : 0 < xs.size := by
    have h3 := congrArg List.length hns
    simp at h3; omega
  rw [e] at hl
  refine max_intList hh hl hsz fun v h' tk hv hk => ?_
  obtain ⟨t, rfl⟩ := intItems_at hv
  obtain ⟨h1, h2⟩ := argBest_gt (numAt xs) (xs.size - 1)
  rw [most_is (x := x) (r := r) (M := numAt xs (argBest (fun i j => decide (numAt xs i > numAt xs j)) (xs.size - 1))) ?_ fun a ha => ?_] 
  · exact h h' t tk hk
  · rw [hns, numAt_eq]; exact getD_mem (by rw [List.length_map, Array.length_toList]; omega)
  · rw [hns] at ha
    obtain ⟨j, hj, rfl⟩ := mem_getD ha
    rw [List.length_map, Array.length_toList] at hj
    rw [← numAt_eq]; exact h2 j (by omega)
theorem sum_of {l : Addr} {vs : List Value} {ns : List Int} {Q : Value → Shared → Prop} (hh : A.handled = none) (hl : s.heap.IsList l vs.toArray) (hi : IntsAre vs ns)
    (h : ∀ h' t tk, (∀ b o, s.heap.get? b = some o → h'.get? b = some o) → Q (.int ns.sum t) { s with heap := h', toks := tk }) : wpAny (MM B) A (call (.builtin "sum") [.ref l]) Q never s := by
  obtain ⟨xs, e⟩ := hi.allInts.items
  have hns : ns = xs.toList.map (·.1) := by rw [← hi.numsOf, ← nums_intItems, ← e]
  rw [e] at hl
  refine sum_intListG hh hl fun h' tk t' hk => ?_
  have := h h' t' tk hk
  rw [preSum_eq, List.take_of_length_le (by simp), ← hns]; exact this

theorem lenB_ok {w : AV} {u : Value} (h : lenB H w = some (v, H')) (S : St B ρ H s.heap) (ra : VR B ρ w u) : wpAny (MM B) A (call (.builtin "len") [u]) (CP B ρ s v H') never s := by
  cases ra with
  | ref ha =>
    unfold lenB lenO at h
    dsimp only at h
    split at h
    · rename_i l hl
      obtain ⟨hs, h⟩ := if_inv h
      refine res2 h ?_
      refine hide fun hG hF => ?_
      obtain ⟨o, g, vs, m, rfl, rr⟩ := S.at_ hl ha
      refine hF ?_
      clear hF hG
      have b := sizeOk_of hs
      have e : l.length = vs.toArray.size := by simp [rr.length]
      refine len_list ⟨_, g, rfl, m, rfl⟩ (by omega) ?_
      rw [e]; exact CP.tok S (.int ..)
    · rename_i l hl
      obtain ⟨hs, h⟩ := if_inv h
      refine res2 h ?_
      refine hide fun hG hF => ?_
      obtain ⟨o, g, vs, m, rfl, rr⟩ := S.at_ hl ha
      refine hF ?_
      clear hF hG
      have b := sizeOk_of hs
      have e : l.length = vs.toArray.size := by simp [rr.length]
      refine PyProof.Rows.len_tuple ⟨_, g, rfl, m, rfl⟩ (by omega) ?_
      rw [e]; exact CP.tok S (.int ..)
    all_goals exact nn h
  | str x t =>
    obtain ⟨hs, h⟩ := if_inv h
    refine res2 h ?_
    have b := sizeOk_of hs
    exact PySem.P.len_str (by omega) (CP.tok S (.int ..))
  | _ => exact nn h
theorem max1_ok {k : Nat} {a : Addr} {l : List Int} {m : Int} (ft : A.handled = none) (h1 : (listAt H k).bind ints? = some l) (h2 : mostL l = some m) (S : St B ρ H s.heap) (ha : ρ[k]? = some a) : wpAny (MM B) A (call (.builtin "max") [.ref a]) (CP B ρ s (.int m) H) never s := by
  obtain ⟨z, h4, h3⟩ := bind_inv h1
  cases l with
  | nil => exact nn h2
  | cons x r =>
    refine res1 h2 ?_
    obtain ⟨vs, m, g, rl⟩ := list_at S h4 ha
    exact max_of ft ⟨_, g, rfl, m, rfl⟩ (ints_are rl h3) fun h' t tk hk => CP.keeps S hk (.int ..)
theorem max2_ok {x y : Int} {t t' : Tok} (ft : A.handled = none) (S : St B ρ H s.heap) : wpAny (MM B) A (call (.builtin "max") [.int x t, .int y t']) (CP B ρ s (.int (if x < y then y else x)) H) never s := by
  refine max_two_ints ft fun h' tk hk => ?_
  by_cases c : x < y
  · rw [if_pos c, if_pos c]; exact CP.keeps S hk (.int ..)
  · rw [if_neg c, if_neg c]; exact CP.keeps S hk (.int ..)
theorem min2_ok {x y : Int} {t t' : Tok} (ft : A.handled = none) (S : St B ρ H s.heap) : wpAny (MM B) A (call (.builtin "min") [.int x t, .int y t']) (CP B ρ s (.int (if y < x then y else x)) H) never s := by
  refine min_two_ints ft fun h' tk hk => ?_
  by_cases c : y < x
  · rw [if_pos c, if_pos c]; exact CP.keeps S hk (.int ..)
  · rw [if_neg c, if_neg c]; exact CP.keeps S hk (.int ..)
theorem maxB_ok {as : List AV} {us : List Value} (ft : A.handled = none) (h : (match as with
    | [a] => onRef a fun k => ((listAt H k).bind ints?).bind fun l => (mostL l).map fun m => (AV.int m, H)
    | a :: b :: r => if r.isEmpty = true then (onInt a fun x => onInt b fun y => some (AV.int (if x < y then y else x), H)) else Option.none
    | [] => Option.none) = some (v, H')) (S : St B ρ H s.heap) (r : VRs B ρ as us) : wpAny (MM B) A (call (.builtin "max") us) (CP B ρ s v H') never s := by
  cases r with
  | nil => exact nn h
  | cons ra r =>
    cases r with
    | nil =>
      obtain ⟨k, rfl, h1⟩ := onRef_inv h
      obtain ⟨l, h2, h1⟩ := bind_inv h1
      obtain ⟨m, h3, h1⟩ := map_inv h1
      cases h1
      cases ra with | ref ha =>
      exact max1_ok ft h2 h3 S ha
    | cons rb r =>
      obtain ⟨q, h1⟩ := if_inv h
      obtain rfl := nil_of q
      refine VRs.nilE r ?_
      obtain ⟨x, rfl, h2⟩ := onInt_inv h1
      obtain ⟨y, rfl, h3⟩ := onInt_inv h2
      refine res2 h3 ?_; refine VR.intE ra fun _ => ?_; refine VR.intE rb fun _ => ?_
      exact max2_ok ft S
theorem truncV_ok {x : UInt64} {i : Int} {t : Tok} (h : truncV x = some i) (S : St B ρ H s.heap) : wpAny (MM B) A (call (.type "int") [.float x t]) (CP B ρ s (.int i) H) never s := by
  unfold truncV at h
  split at h
  · rename_i hd
    refine res1 h ?_
    exact call_int_float hd (CP.tok S (.int ..))
  · exact nn h
theorem tupleB_ok {k : Nat} {a : Addr} {l : List AV} (hl : listAt H k = some l) (hs : sizeOk l.length = true) (S : St B ρ H s.heap) (ha : ρ[k]? = some a) : wpAny (MM B) A (call (.type "tuple") [.ref a]) (CP B ρ s (.ref H.length) (H ++ [.tup l])) never s := by
  obtain ⟨vs, m, g, rl⟩ := list_at S hl ha
  refine call_tuple_list ⟨_, g, rfl, m, rfl⟩ (fun h' hk => ?_) ?_
  · exact CP.after (s' := { s with heap := h' }) (Ext.keeps (tk := s.toks) hk) (CP.push (ao := .tup l) (tk := s.toks) (S.keeps hk) fun ρ' hp => ⟨vs, 0, rfl, rl.mono hp⟩)
  · have := size_line hs
    rw [List.size_toArray, ← rl.length]; exact this
theorem builtin_ok {n : Nat} {f : Str} {fv : Value} {as : List AV} {us : List Value} (ft : Fit n A) (h : builtin f as H = some (v, H')) (hf : bval f = some fv) (S : St B ρ H s.heap) (r : VRs B ρ as us) :
    wpAny (MM B) A (call fv us) (CP B ρ s v H') never s := by
  have nm : ∀ g : Str, ∀ gv : Value, bval g = some gv → f = g → fv = gv := fun g gv e q => by subst q; rw [e] at hf; exact (Option.some.inj hf).symm
  unfold builtin at h
  by_cases hn : f = "len"
  · obtain rfl := nm _ (.builtin "len") (by decide +kernel) hn
    rw [if_pos hn] at h
    obtain ⟨w, rfl, h⟩ := onOne_inv h
    obtain ⟨_, rfl, ra⟩ := r.one
    exact lenB_ok h S ra
  rw [if_neg hn] at h
  clear hn
  by_cases hn : f = "max"
  · obtain rfl := nm _ (.builtin "max") (by decide +kernel) hn
    rw [if_pos hn] at h
    exact maxB_ok ft.handled h S r
  rw [if_neg hn] at h
  clear hn
  by_cases hn : f = "min"
  · obtain rfl := nm _ (.builtin "min") (by decide +kernel) hn
    rw [if_pos hn] at h
    obtain ⟨a, b, rfl, h⟩ := onTwo_inv h
    obtain ⟨x, rfl, h⟩ := onInt_inv h
    obtain ⟨y, rfl, h⟩ := onInt_inv h
    refine res2 h ?_
    obtain ⟨_, _, rfl, ra, rb⟩ := r.two
    refine VR.intE ra fun _ => ?_; refine VR.intE rb fun _ => ?_
    exact min2_ok ft.handled S
  rw [if_neg hn] at h
  clear hn
  by_cases hn : f = "int"
  · obtain rfl := nm _ (.type "int") (by decide +kernel) hn
    rw [if_pos hn] at h
    obtain ⟨a, rfl, h⟩ := onOne_inv h
    obtain ⟨x, rfl, h⟩ := onFlt_inv h
    obtain ⟨i, h1, h⟩ := map_inv h
    cases h
    obtain ⟨_, rfl, ra⟩ := r.one
    refine VR.fltE ra fun _ => ?_
    exact truncV_ok h1 S
  rw [if_neg hn] at h
  clear hn
  by_cases hn : f = "sum"
  · obtain rfl := nm _ (.builtin "sum") (by decide +kernel) hn
    rw [if_pos hn] at h
    obtain ⟨a, rfl, h⟩ := onOne_inv h
    obtain ⟨k, rfl, h⟩ := onRef_inv h
    obtain ⟨l, hl, h⟩ := map_inv h
    obtain ⟨x, h1, h2⟩ := bind_inv hl
    cases h
    obtain ⟨_, rfl, ra⟩ := r.one
    obtain ⟨a, rfl, ha⟩ := ra.refI
    obtain ⟨vs, m, g, rl⟩ := list_at S h1 ha
    rw [total_eq]
    exact sum_of ft.handled ⟨_, g, rfl, m, rfl⟩ (ints_are rl h2) fun h' t tk hk => CP.keeps S hk (.int ..)
  rw [if_neg hn] at h
  clear hn
  obtain ⟨hn, h⟩ := if_inv h
  obtain rfl := nm _ (.type "tuple") (by decide +kernel) hn
  obtain ⟨a, rfl, h⟩ := onOne_inv h
  obtain ⟨k, rfl, h⟩ := onRef_inv h
  obtain ⟨l, hl, h⟩ := bind_inv h
  obtain ⟨hs, h⟩ := if_inv h
  refine res2 h ?_
  obtain ⟨_, rfl, ra⟩ := r.one
  obtain ⟨a, rfl, ha⟩ := ra.refI
  exact tupleB_ok hl hs S ha
end
end Mine
end
section
/-! Arguments and calls. -/
namespace Mine
open PySem PySem.Spec PySem.Calls PyProof.Rows

noncomputable def GE (B : Bs) (n : Nat) (E : Evs) : Prop := ∀ e N l H v H', E.e e N l H = some (v, H') → ∀ A env ρ s, Fit n A → env.scope.names = N → Fm B env ρ l s.heap → St B ρ H s.heap → wpAny (MM B) A (eval e env) (EP B env l ρ s v H') never s
inductive FR (B : Bs) (ρ : List Addr) : AF → Flow → Prop where
  | next : FR B ρ .next .next
  | brk : FR B ρ .brk .brk
  | ret {v : AV} {u : Value} : VR B ρ v u → FR B ρ (.ret v) (.ret u)
inductive XP (B : Bs) (env : Env) (ρ : List Addr) (s : Shared) (f : AF) (l' : AL) (H' : AH) (fl : Flow) (s' : Shared) : Prop
  | mk (ρ' : List Addr) (x : Ext ρ (own env) s ρ' s') (F : Fm B env ρ' l' s'.heap) (S : St B ρ' H' s'.heap) (r : FR B ρ' f fl)
noncomputable def GX (B : Bs) (n : Nat) (E : Evs) : Prop := ∀ b N l H f l' H', E.x b N l H = some (f, l', H') → ∀ A env ρ s, Fit n A → env.scope.names = N → Fm B env ρ l s.heap → St B ρ H s.heap → wpAny (MM B) A (execs b env) (XP B env ρ s f l' H') never s
/-- what a call gives back, and no exception -/
noncomputable abbrev Back (Q : Value → Shared → Prop) : Result → Shared → Prop := fun r s' => match r with | .ok (.ret v) => Q v s' | .ok _ => False | .error _ => False
noncomputable def GC (B : Bs) (n : Nat) (E : Evs) : Prop := ∀ f a as H v H', E.call f as H = some (v, H') → faddr f = some a → ∀ A ρ s us, Fit n A → St B ρ H s.heap → VRs B ρ as us → codeAny (MM B) A (.call (.ref a) ⟨us, []⟩) (Back (CP B ρ s v H')) s
noncomputable def GM (B : Bs) (n : Nat) (E : Evs) : Prop := ∀ f a as H v H', E.meth f as H = some (v, H') → maddr f = some a → ∀ A ρ s us, Fit n A → St B ρ H s.heap → VRs B ρ as us → codeAny (MM B) A (.call (.ref a) ⟨us, []⟩) (Back (CP B ρ s v H')) s
structure Good (B : Bs) (n : Nat) (E : Evs) : Prop where
  e : GE B n E
  x : GX B n E
  c : GC B n E
  m : GM B n E

theorem call_back {M : Model} {A : Around} {s : Shared} {f : Value} {us : List Value} {Q : Value → Shared → Prop} (h : codeAny M A (.call f ⟨us, []⟩) (Back Q) s) : wpAny M A (call f us) Q never s :=
  wpAny_call (codeAny_mono h fun r s' z => by
    rcases r with e | (v | _ | _ | _) <;> first | exact z | exact z.elim)
section
variable {B : Bs} {n : Nat} {E : Evs} {env : Env} {l : AL} {ρ : List Addr} {s : Shared} {H H' : AH} {A : Around} {v : AV}
theorem starEach_plain (env : Env) : ∀ {es : List Expr}, es.all plainE = true → starEach es env = es.map fun e => (false, eval e env)
  | [], _ => rfl
  | e :: r, h => by
    simp only [List.all_cons, Bool.and_eq_true] at h
    have ih := starEach_plain env h.2
    cases e <;> first | (rw [List.map_cons, ← ih]; rfl) | cases h.1
theorem backTo_plain (p : Pos) (env : Env) (es : List Expr) : backTo p (es.map fun e => (false, eval e env)) = es.map fun e => (false, eval e env) := by
  unfold backTo
  rw [List.map_map]
  rfl
theorem backTo_star (p : Pos) {es : List Expr} (h : es.all plainE = true) : backTo p (starEach es env) = es.map fun e => (false, eval e env) := by rw [starEach_plain env h, backTo_plain]
theorem plainArgs_of {es : List Expr} (h : plainArgs es = true) : es.all plainE = true ∧ es.length < 20 := by
  unfold plainArgs at h
  simpa using h

inductive EPs (B : Bs) (env : Env) (l : AL) (ρ : List Addr) (s : Shared) (vs : List AV) (H' : AH) (us : List Value) (s' : Shared) : Prop
  | mk (ρ' : List Addr) (x : Ext ρ noO s ρ' s') (F : Fm B env ρ' l s'.heap) (S : St B ρ' H' s'.heap) (r : VRs B ρ' vs us)
theorem evs_ok {N : Names} (g : GE B n E) (ft : Fit n A) (hN : env.scope.names = N) : ∀ {es : List Expr} {vs : List AV} {H H' : AH} {ρ : List Addr} {s : Shared}, evs E N l es H = some (vs, H') → Fm B env ρ l s.heap → St B ρ H s.heap →
    wpAny (MM B) A (spliced (es.map fun e => (false, eval e env))) (EPs B env l ρ s vs H') never s
  | [], vs, H, H', ρ, s, h, F, S => by
    refine res2 h ?_
    exact spliced_nil ⟨ρ, .refl, F, S, .nil⟩
  | e :: r, vs, H, H', ρ, s, h, F, S => by
    obtain ⟨v, H₁, h1, h⟩ := obind_inv h
    obtain ⟨vs', H₂, h2, h⟩ := obind_inv h
    refine res2 h ?_
    refine spliced_cons (wpAny_mono (g e N l H v H₁ h1 A env ρ s ft hN F S) (fun u s₁ p => ?_) fun _ _ x => x)
    obtain ⟨ρ₁, x1, F1, S1, r1⟩ := p
    refine wpAny_mono (evs_ok g ft hN h2 F1 S1) (fun us s₂ p => ?_) fun _ _ x => x
    obtain ⟨ρ₂, x2, F2, S2, r2⟩ := p
    exact ⟨ρ₂, x1.trans x2, F2, S2, .cons (r1.mono x2.pre) r2⟩
theorem evalArgs_ok {f : Value} {N : Names} (g : GE B n E) (ft : Fit n A) (hN : env.scope.names = N) {es : List Expr} {vs : List AV} (h : evs E N l es H = some (vs, H')) (F : Fm B env ρ l s.heap) (S : St B ρ H s.heap) :
    wpAny (MM B) A (evalArgs f true (es.map fun e => (false, eval e env)) []) (fun a s' => a.kw = [] ∧ EPs B env l ρ s vs H' a.pos s') never s := by
  cases es with
  | nil =>
    refine res2 h ?_
    exact PySem.evalArgs_none ⟨rfl, ρ, .refl, F, S, .nil⟩
  | cons e r =>
    exact evalArgs_plain (wpAny_mono (evs_ok g ft hN h F S) (fun us s' p => ⟨rfl, p⟩) fun _ _ x => x)

theorem meth_rule {o : Expr} {name : Str} {ap p : Pos} {as : List Expr} {Q : Value → Shared → Prop} (hb : baseE o = true) (hp : plainArgs as = true) (hl : (ap.endLine == p.line) = true)
    (h : wpAny (MM B) A (eval o env) (fun ov s₁ => ∀ pl, wpAny (MM B) A (getMethod ov name pl) (fun fx s₂ => wpAny (MM B) A (callWith p fx.1 fx.2 (as.map fun e => (false, eval e env)) []) Q never s₂) never s₁) never s) :
    wpAny (MM B) A (eval (.Call (.Attribute o name ap) as [] p) env) Q never s := by
  obtain ⟨h1, h2⟩ := plainArgs_of hp
  rw [arm_eval_Call]
  have hbase : attributeBase o name env (eval o env) = eval o env := by
    cases o <;> first | rfl | exact ff hb
  rw [hbase, backTo_star p h1]
  refine wpAny_bind (wpAny_mono h (fun ov s₁ h₁ => ?_) fun _ _ e => e)
  refine wpAny_bind (wpAny_standAt ?_)
  have hform : methodCallForm (as.length + ([] : List Keyword).length) (as.map fun e => (false, eval e env)) (backToKw p (keywordEach [] env)) = true := by
    unfold methodCallForm
    have : (as.map fun e => (false, eval e env)).all (!·.1) = true := by
      rw [List.all_map]; simp
    rw [this]
    show (true && true && decide _) = true
    simp only [Bool.true_and, decide_eq_true_eq]
    show as.length + 0 + 0 < 30
    omega
  have hpos : methodCallPos true o env ap p = pure p := by unfold methodCallPos; simp [hl]
  unfold methodCall
  rw [hform]
  refine wpAny_bind (wpAny_holding (wpAny_mono (h₁ _) (fun fx s₂ h₂ => ?_) fun _ _ x => x))
  exact wpAny_bind (wpAny_of_eq hpos h₂)
end
end Mine
end
section
/-! Methods of built-in types; calls by a name. -/
namespace Mine
open PySem PySem.Spec PySem.Calls PyProof.Rows

theorem str_nil_append (x : Str) : (⟨#[]⟩ : Str) ++ x = x := by
  cases x with
  | mk c => show (⟨#[] ++ c⟩ : Str) = _; simp
theorem str_append_nil (x : Str) : x ++ (⟨#[]⟩ : Str) = x := by
  cases x with
  | mk c => show (⟨c ++ #[]⟩ : Str) = _; simp
theorem joinS_eq (xs : List Str) : Txt.join ⟨#[]⟩ xs = joinS xs := by
  have h := StrLaws.glued_eq_join ⟨#[]⟩ xs
  refine Eq.trans h ?_
  induction xs with
  | nil => rfl
  | cons x r ih =>
    cases r with
    | nil => show x = x ++ _; rw [joinS, str_append_nil]
    | cons y q =>
      show x ++ ⟨#[]⟩ ++ Str.join ⟨#[]⟩ (y :: q) = x ++ joinS (y :: q)
      rw [ih (StrLaws.glued_eq_join ⟨#[]⟩ (y :: q)), str_append_nil]
theorem sumLen_eq : ∀ xs : List Str, (xs.map (·.length)).sum = sumLen xs
  | [] => rfl
  | x :: r => by rw [List.map_cons, List.sum_cons, sumLen_eq r, sumLen]

section
variable {B : Bs} {n : Nat} {E : Evs} {env : Env} {l : AL} {ρ : List Addr} {s : Shared} {H H' : AH} {A : Around} {v : AV}
theorem strs_are {x : List AV} {vs : List Value} {ss : List Str} (r : VRs B ρ x vs) (h : strs? x = some ss) : StrsAre vs ss := by
  induction r generalizing ss with
  | nil => refine res1 h ?_; exact .nil
  | @cons a u l vs ha _ ih =>
    cases a with
    | str i =>
      simp only [strs?] at h
      obtain ⟨ns', h1, h2⟩ := Option.map_eq_some_iff.mp h
      cases ha
      subst h2
      exact .cons _ _ (ih h1)
    | _ => simp [strs?] at h
/-- a method of a built-in object, called -/
theorem meth_builtin {id : String} {p : Pos} {N : Names} {es : List Expr} {vs : List AV} {first : List Value} {Q : Value → Shared → Prop} (g : GE B n E) (ft : Fit n A) (hN : env.scope.names = N) (h : evs E N l es H = some (vs, H'))
    (F : Fm B env ρ l s.heap) (S : St B ρ H s.heap)
    (hc : ∀ us s' ρ', Ext ρ noO s ρ' s' → Fm B env ρ' l s'.heap → St B ρ' H' s'.heap → VRs B ρ' vs us → wpAny (MM B) A (call (.builtin id) (first ++ us)) Q never s') :
    wpAny (MM B) A (callWith p (.builtin id) first (es.map fun e => (false, eval e env)) []) Q never s := by
  refine callWith_builtin ?_ (wpAny_mono (evalArgs_ok g ft hN h F S) (fun a s' q => ?_) fun _ _ x => x)
  · rw [List.any_map]; simp
  · obtain ⟨hk, ρ', x, F', S', r⟩ := q
    rw [hk]
    exact hc a.pos s' ρ' x F' S' r

theorem append_ok {k : Nat} {x : List AV} {a : Addr} {y : AV} {u : Value} (S : St B ρ H s.heap) (hl : H[k]? = some (.list x)) (ha : ρ[k]? = some a) (hs : sizeOk (x.length + 1) = true) (ru : VR B ρ y u) :
    wpAny (MM B) A (call (.builtin "list.append") [.ref a, u]) (CP B ρ s .none (H.set k (.list (x ++ [y])))) never s := by
  refine hide fun hG hF => ?_
  obtain ⟨o, g, vs, m, rfl, r⟩ := S.at_ hl ha
  refine hF ?_
  clear hF hG
  have hz := sizeOk_of hs
  refine call_meets F.slot_list_append ⟨_, g, rfl⟩ F.entry_list_append (F.args_list_append_2 _ _) (list_append a vs.toArray m u (by rw [List.size_toArray, ← r.length, sizeLine_eq]; omega)) ⟨g, ?_⟩
  have g' := IsL.update (h := s.heap) g (fun xs => xs.push u)
  refine ⟨ρ, Ext.upd (tk := s.toks) (List.mem_of_getElem? ha) (Heap.SameBut.update ..) g', S.set ha (Heap.SameBut.update ..) g' ⟨vs ++ [u], (if ((vs.toArray.push u).size == vs.toArray.size) = true then m else m + 1), ?_, r.append (.cons ru .nil)⟩, .none⟩
  congr 2
  simp
theorem get_ok {k : Nat} {x : List (Int × Int)} {a : Addr} {i d : Int} {t u : Tok} (G : Gd B) (S : St B ρ H s.heap) (hl : H[k]? = some (.dict x)) (ha : ρ[k]? = some a) :
    wpAny (MM B) A (call (.builtin "dict.get") [.ref a, .int i t, .int d u]) (CP B ρ s (.int ((x.lookup i).getD d)) H) never s := by
  refine hide fun hG hF => ?_
  obtain ⟨lo, kvs, hd, _, hf⟩ := dict_of G S hl ha
  refine hF ?_
  clear hF hG
  refine call_meetsIn PySem.F.slot_dict_get hd.typeIs PySem.F.entry_dict_get (PySem.F.args_dict_get_3 _ _ _) (meets_dict_get_default (intKind Challenge.pw_rl0083_01 B.w) a (intKind_is _ _ i t) lo (.int d u)) ⟨_, hd.mapOf, ?_⟩
  cases hx : x.lookup i with
  | none =>
    rw [(hf i).1 hx]
    exact CP.tok S (.int ..)
  | some j =>
    obtain ⟨t', e⟩ := (hf i).2 j hx
    rw [e]
    exact CP.tok S (.int ..)
theorem join_ok {k : Nat} {x : List AV} {xs : List Str} {a : Addr} {t : Tok} {sep : Str} (S : St B ρ H s.heap) (hl : listAt H k = some x) (hx : strs? x = some xs) (ha : ρ[k]? = some a) (hs : sizeOk (sumLen xs) = true) (h0 : sep.length = 0) :
    wpAny (MM B) A (call (.builtin "str.join") [.str sep t, .ref a]) (CP B ρ s (.str (joinS xs)) H) never s := by
  obtain ⟨vs, m, g, r⟩ := list_at S hl ha
  have hz := sizeOk_of hs
  have hsep : sep = ⟨#[]⟩ := by
    cases sep with
    | mk c =>
      have : c.size = 0 := h0
      congr
      simpa using this
  subst hsep
  refine join_list (D := a) (items := vs.toArray) ⟨_, g, rfl, m, rfl⟩ (by simpa using strs_are r hx) ?_ fun t' k => ?_
  · rw [sumLen_eq]
    show sumLen xs + xs.length * 0 ≤ _
    omega
  · rw [joinS_eq]; exact CP.tok S (.str ..)
end
end Mine
end
section
/-! Calls of the text's defs. -/
namespace Mine
open PySem PySem.Spec PySem.Calls PyProof.Rows

theorem bindL_other {k : Str → Option NameKind} {x : Str} : ∀ (bs : List (Str × Value)) (m : Str → Option Value), x ∉ bs.map (·.1) → bindL k bs m x = m x
  | [], _, _ => rfl
  | (y, v) :: r, m, h => by
    simp only [List.map_cons, List.mem_cons, not_or] at h
    unfold bindL
    rw [bindL_other r _ h.2]
    split
    · exact if_neg h.1
    · rfl
theorem bindC_other {k : Str → Option NameKind} {x : Str} : ∀ (bs : List (Str × Value)) (m : Str → Option Value), x ∉ bs.map (·.1) → bindC k bs m x = m x
  | [], _, _ => rfl
  | (y, v) :: r, m, h => by
    simp only [List.map_cons, List.mem_cons, not_or] at h
    unfold bindC
    rw [bindC_other r _ h.2]
    split
    · rfl
    · exact if_neg h.1
theorem zip_fst_sub {ps : List Str} {us : List Value} {x : Str} (h : x ∉ ps) : x ∉ (ps.zip us).map (·.1) := by
  intro q
  obtain ⟨p, hp, rfl⟩ := List.mem_map.mp q
  exact h (List.of_mem_zip (by simpa using hp : (p.1, p.2) ∈ ps.zip us)).1
theorem bind_rel {B : Bs} {ρ : List Addr} {k : Str → Option NameKind} : ∀ {ps : List Str} {as : List AV} {us : List Value} (m cm : Str → Option Value), VRs B ρ as us → ps.Nodup → ∀ x v, bindAll ps as x = some v →
    (k x = some .local → ∃ u, bindL k (ps.zip us) m x = some u ∧ VR B ρ v u) ∧ (k x ≠ some .local → ∃ u, bindC k (ps.zip us) cm x = some u ∧ VR B ρ v u)
  | [], _, _, m, cm, _, _, x, v, h => by simp [bindAll] at h
  | _ :: _, [], _, m, cm, _, _, x, v, h => by simp [bindAll] at h
  | p :: ps, a :: as, us, m, cm, r, hn, x, v, h => by
    cases r with
    | @cons _ u _ us ra rs =>
    rw [List.nodup_cons] at hn
    rw [List.zip_cons_cons]
    unfold bindL bindC
    unfold bindAll put at h
    by_cases q : x = p
    · subst q
      rw [if_pos rfl] at h
      refine res1 h ?_
      refine ⟨fun hk => ⟨u, ?_, ra⟩, fun hk => ⟨u, ?_, ra⟩⟩
      · rw [bindL_other _ _ (zip_fst_sub hn.1), if_pos hk, if_pos rfl]
      · rw [bindC_other _ _ (zip_fst_sub hn.1), if_neg hk, if_pos rfl]
    · rw [if_neg q] at h
      have ih := bind_rel (k := k) (if k p = some .local then fun y => if y = p then some u else m y else m) (if k p = some .local then cm else fun y => if y = p then some u else cm y) rs hn.2 x v h
      exact ih

section
variable {B : Bs} {n : Nat} {E : Evs} {ρ : List Addr} {s : Shared} {H H' : AH} {A : Around} {v : AV}
theorem Fit.deeper {env : Env} (h : Fit (n + 1) A) : Fit n (A.deeper env) := ⟨h.handled, by have := h.depth; rw [depth_deeper]; omega, by have := h.units; rw [units_deeper]; omega⟩
theorem def_call {f : Str} {a : Addr} {body : List Stmt} {as : List AV} {us : List Value} (G : Gd B) (g : GX B n E) (ft : Fit (n + 1) A) (hf : ∀ ps b N, defOf f body = some (ps, b, N) → FnAt B.h₀ a ps b N)
    (h : callBy E body f as H = some (v, H')) (S : St B ρ H s.heap) (r : VRs B ρ as us) : codeAny (MM B) A (.call (.ref a) ⟨us, []⟩) (Back (CP B ρ s v H')) s := by
  unfold callBy at h
  split at h
  · rename_i ps b N hd
    split at h
    · rename_i hc
      refine hide fun hG hF => ?_
      obtain ⟨hlen, hnd, hvar⟩ := hc
      obtain ⟨o, fd, ho, hdata, hcd, hbody, hnames, hclo, hglb, hblt, hkind, hco, hgen, hbind⟩ := hf ps b N hd
      refine hF ?_
      clear hF hG
      have hul : us.length = ps.length := by rw [← r.length, hlen]
      refine codeAny_call_cells (fd := fd) (body := b) (binds := ps.zip us) ?_ (S.keep a o ho) hdata (G.nolimit.keeps S.keep) (hcd.keeps S.keep) hbody (hbind us hul) hclo ?_ (fun s₁ X => ?_) hco hgen hkind
      · have := ft.depth; show A.depth < 1000; omega
      · intro x hx
        have hx1 : x.1 ∈ ps := (List.of_mem_zip (by simpa using hx : (x.1, x.2) ∈ ps.zip us)).1
        have := List.all_eq_true.mp hvar x.1 hx1
        rw [hnames]
        rcases isVar_cases this with q | q
        · exact .inl q
        · exact .inr ⟨q, W.cellsFrom_some _ _ _ (.inl q)⟩
      · refine hide fun hG hF => ?_
        obtain ⟨⟨⟨h₁, tk, hs₁⟩, hns, hkeep, hfr⟩, hcell, hapart, habove⟩ := X
        refine hF ?_
        clear hF hG
        have hkO : ∀ x, (callEnvC fd s.heap.objs.size a).kindOf x = N.lookup x := fun x => by rw [← hnames]; rfl
        have small : ∀ c ∈ ρ, c < s.heap.objs.size := fun c hc => by obtain ⟨o', e⟩ := S.aliveAt hc; exact Heap.lt_size e
        have smallB : ∀ c o', B.h₀.get? c = some o' → c < s.heap.objs.size := fun c o' e => Heap.lt_size (S.keep c o' e)
        have F : Fm B (callEnvC fd s.heap.objs.size a) ρ (bindAll ps as) s₁.heap := by
          refine ⟨hkind, hglb, hblt, ⟨_, hns, fun x u hx hk => ?_⟩, fun x hk => ?_, fun x y c hx hy => ?_, fun hm => ?_, ?_⟩
          · exact (bind_rel _ (fun _ => none) r hnd x u hx).1 hk
          · have hk' : N.lookup x = some .cell := by rw [← hkO]; exact hk
            obtain ⟨c, hc⟩ := Option.isSome_iff_exists.mp (W.cellsFrom_some (x := x) fd.scope.names (s.heap.objs.size + 1) [] (.inl (by rw [hnames]; exact hk')))
            have hc' : (callEnvC fd s.heap.objs.size a).cells.lookup x = some c := hc
            have hgt : s.heap.objs.size < c := habove x c (mem_of_lookup hc')
            refine ⟨c, _, hc', hcell x c hc', fun hm => ?_, ?_, ?_, fun u hu => ?_⟩
            · exact Nat.lt_asymm (small c hm) hgt
            · cases e : B.h₀.get? c with
              | none => rfl
              | some o' => exact absurd (smallB c o' e) (Nat.lt_asymm hgt)
            · exact Nat.ne_of_gt hgt
            · have hne : (callEnvC fd s.heap.objs.size a).kindOf x ≠ some .local := by rw [hk]; decide
              exact (bind_rel (fun _ => none) (fun _ => none) r hnd x u hu).2 hne
          · exact name_of_addr hapart (mem_of_lookup hx) (mem_of_lookup hy)
          · exact absurd (small _ hm) (Nat.lt_irrefl _)
          · cases e : B.h₀.get? (callEnvC fd s.heap.objs.size a).locals with
            | none => rfl
            | some o' => exact absurd (smallB _ o' e) (Nat.lt_irrefl _)
        have S₁ : St B ρ H s₁.heap := S.keeps hkeep
        have x1 : Ext ρ noO s ρ s₁ := by rw [hs₁]; rw [hs₁] at hkeep; exact Ext.keeps hkeep
        -- the body's own places are new
        have newOwn : ∀ b, own (callEnvC fd s.heap.objs.size a) b → s.heap.get? b = none := fun b hb => by
          cases e : s.heap.get? b with
          | none => rfl
          | some o' =>
            have hlt := Heap.lt_size e
            rcases hb with q | ⟨x, hk, q⟩
            · rw [q] at hlt; exact absurd hlt (Nat.lt_irrefl _)
            · have hgt : s.heap.objs.size < b := habove x b (mem_of_lookup q)
              exact absurd hlt (Nat.lt_asymm hgt)
        have fin : ∀ {ρ' : List Addr} {s' : Shared}, Ext ρ (own (callEnvC fd s.heap.objs.size a)) s₁ ρ' s' → Ext ρ noO s ρ' s' := fun {ρ' s'} y => by
          have z := (x1.any (O := own (callEnvC fd s.heap.objs.size a))).trans y
          exact ⟨z.pre, z.new, fun b o' e hb _ => z.kept b o' e hb fun q => (by rw [newOwn b q] at e; exact nn e), z.alive, z.gens, z.bare, z.os⟩
        split at h
        · rename_i u l' H₂ hx
          refine res2 h ?_
          refine wpAny_mono (g b N _ H _ _ _ hx _ _ ρ s₁ ft.deeper hnames F S₁) (fun fl s' p => ?_) fun _ _ x => x.elim
          obtain ⟨ρ', y, _, S', fr⟩ := p
          cases fr with
          | ret rv => exact ⟨ρ', fin y, S', rv⟩
        · rename_i l' H₂ hx
          refine res2 h ?_
          refine wpAny_mono (g b N _ H _ _ _ hx _ _ ρ s₁ ft.deeper hnames F S₁) (fun fl s' p => ?_) fun _ _ x => x.elim
          obtain ⟨ρ', y, _, S', fr⟩ := p
          cases fr
          exact ⟨ρ', fin y, S', .none⟩
        · exact nn h
    · exact nn h
  · exact nn h
end
end Mine
end
section
/-! Iteration. -/
namespace Mine
open PySem PySem.Spec PySem.Calls PyProof.Rows

/-- kept but for an iterator's own places and generators -/
structure Kp (wr : Addr → Prop) (gw : Nat → Prop) (s s' : Shared) : Prop where
  heap : ∀ b o, ¬ wr b → s.heap.get? b = some o → s'.heap.get? b = some o
  gens : ∀ (i : Nat) x, ¬ gw i → s.gens[i]? = some x → s'.gens[i]? = some x
  bare : AllBare s.gens → AllBare s'.gens
  os : s'.os = s.os
theorem Kp.heapOnly {wr : Addr → Prop} {gw : Nat → Prop} {s : Shared} {h' : Heap} {tk : Nat} (hk : ∀ b o, ¬ wr b → s.heap.get? b = some o → h'.get? b = some o) : Kp wr gw s { s with heap := h', toks := tk } :=
  ⟨hk, fun _ _ _ e => e, fun h => h, rfl⟩
theorem Kp.trans {wr : Addr → Prop} {gw : Nat → Prop} {s s' s'' : Shared} (x : Kp wr gw s s') (y : Kp wr gw s' s'') : Kp wr gw s s'' :=
  ⟨fun b o hb e => y.heap b o hb (x.heap b o hb e), fun i g hg e => y.gens i g hg (x.gens i g hg e), fun h => y.bare (x.bare h), y.os.trans x.os⟩

section
variable {B : Bs} {env : Env} {l : AL} {ρ ρ' : List Addr} {s s' s₀ : Shared} {H : AH} {wr : Addr → Prop} {gw : Nat → Prop} {O : Addr → Prop}
/-- wr lies apart from everything that the frame and the heap relation know -/
structure Off (B : Bs) (env : Env) (ρ : List Addr) (wr : Addr → Prop) : Prop where
  ref : ∀ a ∈ ρ, ¬ wr a
  own : ∀ a, own env a → ¬ wr a
  base : ∀ a o, B.h₀.get? a = some o → ¬ wr a
theorem St.kp (S : St B ρ H s.heap) (f : Off B env ρ wr) (k : Kp wr gw s s') : St B ρ H s'.heap where
  keep := fun b o e => k.heap b o (f.base b o e) (S.keep b o e)
  len := S.len
  nodup := S.nodup
  fresh := S.fresh
  obj := fun j ao e => let ⟨a, o, h1, h2, h3⟩ := S.obj j ao e; ⟨a, o, h1, k.heap a o (f.ref a (List.mem_of_getElem? h1)) h2, h3⟩
theorem Fm.kp (F : Fm B env ρ l s.heap) (f : Off B env ρ wr) (k : Kp wr gw s s') : Fm B env ρ l s'.heap where
  kind := F.kind
  glb := F.glb
  blt := F.blt
  ns := let ⟨m, hn, hv⟩ := F.ns; ⟨m, hn.at' fun o e => k.heap _ o (f.own _ (.inl rfl)) e, hv⟩
  cel := fun y hk => by
    obtain ⟨c, w, h1, ⟨o, ho, hd⟩, h3, h4, h5, h6⟩ := F.cel y hk
    exact ⟨c, w, h1, ⟨o, k.heap c o (f.own c (.inr ⟨y, hk, h1⟩)) ho, hd⟩, h3, h4, h5, h6⟩
  inj := F.inj
  locR := F.locR
  base := F.base
theorem Ext.kp (x : Ext ρ O s₀ ρ' s) (hw : ∀ a o, s₀.heap.get? a = some o → ¬ wr a) (hg : ∀ (i : Nat) g, s₀.gens[i]? = some g → ¬ gw i) (k : Kp wr gw s s') : Ext ρ O s₀ ρ' s' where
  pre := x.pre
  new := x.new
  kept := fun b o e hb ho => k.heap b o (hw b o e) (x.kept b o e hb ho)
  alive := fun b o e => let ⟨o', e'⟩ := x.alive b o e; ⟨o', k.heap b o' (hw b o e) e'⟩
  gens := fun i g e => k.gens i g (hg i g e) (x.gens i g e)
  bare := fun h => k.bare (x.bare h)
  os := k.os.trans x.os
end

/-- an item's parts as the loop hands them on -/
noncomputable def IT (B : Bs) (ρ : List Addr) (x : List AV) (v : Value) (h : Heap) : Prop := match x with
  | [a] => VR B ρ a v
  | [a, b] => ∃ T u₁ u₂, v = .ref T ∧ h.IsTuple T #[u₁, u₂] ∧ VR B ρ a u₁ ∧ VR B ρ b u₂
  | _ => False
/-- an iterator that hands on the items, its state told by J -/
structure IW (B : Bs) (A : Around) (env : Env) (tg : Expr) (it : Value) (items : List (List AV)) (g : AH → Bool) (wr : Addr → Prop) (gw : Nat → Prop) (J : List Addr → Nat → Shared → Prop) : Prop where
  off : ∀ ρ i s, J ρ i s → Off B env ρ wr
  move : ∀ ρ ρ' i s s', J ρ i s → Ext ρ (own env) s ρ' s' → J ρ' i s'
  item : ∀ ρ H i s x, J ρ i s → St B ρ H s.heap → g H = true → items[i]? = some x →
    wpAny (MM B) A (pyNext it) (fun r s₁ => ∃ v, r = some v ∧ wpAny (MM B) A (letOwnedTupleGo tg it v) (fun _ s₂ => Kp wr gw s s₂ ∧ J ρ (i + 1) s₂ ∧ IT B ρ x v s₂.heap) never s₁) never s
  done : ∀ ρ H s, J ρ items.length s → St B ρ H s.heap → g H = true → wpAny (MM B) A (pyNext it) (fun r s₁ => r = none ∧ Kp wr gw s s₁) never s
  self : ∀ ρ H i s, J ρ i s → St B ρ H s.heap → g H = true → wpAny (MM B) A (pyIter it) (fun v s₁ => v = it ∧ s₁ = s) never s

section
variable {B : Bs} {n : Nat} {A : Around} {env : Env} {l l₁ : AL} {ρ : List Addr} {s : Shared} {H : AH}
theorem letGo_name {tg : Expr} (h : soleTarget tg = true) (it v : Value) : letOwnedTupleGo tg it v = pure () := by
  obtain ⟨x, p, rfl⟩ := sole_inv h; rfl

theorem ext_get {ρ ρ' : List Addr} {O : Addr → Prop} {s s' : Shared} (x : Ext ρ O s ρ' s') {b : Addr} {o : Obj} (e : s.heap.get? b = some o) (h1 : b ∉ ρ) (h2 : ¬ O b) : s'.heap.get? b = some o ∧ b ∉ ρ' :=
  ⟨x.kept b o e h1 h2, fun hm => by
    rcases x.new b hm with q | q
    · exact h1 q
    · rw [e] at q; cases q⟩
theorem off_move {wr : Addr → Prop} {ρ ρ' : List Addr} {s s' : Shared} (f : Off B env ρ wr) (x : Ext ρ (own env) s ρ' s') (ha : ∀ a, wr a → ∃ o, s.heap.get? a = some o) : Off B env ρ' wr where
  ref := fun a hm hw => by
    rcases x.new a hm with q | q
    · exact f.ref a q hw
    · obtain ⟨o, e⟩ := ha a hw; rw [e] at q; cases q
  own := f.own
  base := f.base

/-- an iterator of one place -/
theorem iw_one {tg : Expr} {I : Addr} {items : List (List AV)} {g : AH → Bool} {P : List Addr → Nat → Heap → Prop} (ht : soleTarget tg = true)
    (alive : ∀ ρ i h, P ρ i h → ∃ o, h.get? I = some o)
    (frame : ∀ ρ ρ' i h h', P ρ i h → ρ <+: ρ' → (∀ o, h.get? I = some o → h'.get? I = some o) → P ρ' i h')
    (item : ∀ ρ H i s x, P ρ i s.heap → St B ρ H s.heap → g H = true → I ∉ ρ → items[i]? = some x → ∀ Q : Option Value → Shared → Prop,
      (∀ v h' tk, (∀ b o, b ≠ I → s.heap.get? b = some o → h'.get? b = some o) → P ρ (i + 1) h' → IT B ρ x v h' → Q (some v) { s with heap := h', toks := tk }) → wpAny (MM B) A (pyNext (.ref I)) Q never s)
    (done : ∀ ρ H s, P ρ items.length s.heap → St B ρ H s.heap → g H = true → I ∉ ρ → ∀ Q : Option Value → Shared → Prop,
      (∀ h' tk, (∀ b o, b ≠ I → s.heap.get? b = some o → h'.get? b = some o) → Q none { s with heap := h', toks := tk }) → wpAny (MM B) A (pyNext (.ref I)) Q never s)
    (self : ∀ ρ H i s, P ρ i s.heap → St B ρ H s.heap → g H = true → ∀ Q : Value → Shared → Prop, Q (.ref I) s → wpAny (MM B) A (pyIter (.ref I)) Q never s) :
    IW B A env tg (.ref I) items g (· = I) (fun _ => False) (fun ρ i s => Off B env ρ (· = I) ∧ P ρ i s.heap) where
  off := fun _ _ _ h => h.1
  move := fun ρ ρ' i s s' h e => by
    have al := alive _ _ _ h.2
    refine ⟨off_move h.1 e fun a ha => by rw [ha]; exact al, frame _ _ _ _ _ h.2 e.pre fun o ho => ?_⟩
    exact e.kept I o ho (fun hm => h.1.ref I hm rfl) (fun ho => h.1.own I ho rfl)
  item := fun ρ H i s x h S hg hi => by
    refine item ρ H i s x h.2 S hg (fun hm => h.1.ref I hm rfl) hi _ fun v h' tk hk hP hI => ⟨v, rfl, ?_⟩
    rw [letGo_name ht]
    exact wpAny_pure ⟨Kp.heapOnly hk, ⟨h.1, hP⟩, hI⟩
  done := fun ρ H s h S hg => done ρ H s h.2 S hg (fun hm => h.1.ref I hm rfl) _ fun h' tk hk => ⟨rfl, Kp.heapOnly hk⟩
  self := fun ρ H i s h S hg => self ρ H i s h.2 S hg _ ⟨rfl, rfl⟩

/-- over a list -/
theorem iw_list {tg : Expr} {k : Nat} {x : List AV} {I : Addr} (hh : A.handled = none) (ht : soleTarget tg = true) :
    IW B A env tg (.ref I) (x.map fun v => [v]) (fun h => decide (h[k]? = some (.list x))) (· = I) (fun _ => False)
      (fun ρ i s => Off B env ρ (· = I) ∧ ∃ a, ρ[k]? = some a ∧ s.heap.IsListIter I a i) :=
  iw_one (P := fun ρ i h => ∃ a, ρ[k]? = some a ∧ h.IsListIter I a i) ht (fun _ _ _ ⟨_, _, o, ho, _⟩ => ⟨o, ho⟩)
    (fun _ _ _ _ _ ⟨a, h1, o, ho, r⟩ hp hk => ⟨a, pre_get hp h1, o, hk o ho, r⟩)
    (fun ρ H i s y hP S hg hI hi Q hQ => by
      refine hide fun hG hF => ?_
      obtain ⟨a, ha, hit⟩ := hP
      obtain ⟨o, g, vs, m, rfl, r⟩ := S.at_ (of_decide_eq_true hg) ha
      refine hF ?_
      clear hF hG
      rw [List.getElem?_map] at hi
      refine hide fun hG hF => ?_
      obtain ⟨v, hv, rfl⟩ := Option.map_eq_some_iff.mp hi
      obtain ⟨u, hu, ru⟩ := r.get i v hv
      refine hF ?_
      clear hF hG
      refine wpAny_pyNext_list_item hit ⟨_, g, rfl, m, rfl⟩ (by simpa using hu) fun h' hit' hs' => ?_
      exact hQ u h' s.toks (fun b o hb e => (hs'.2 b hb).trans e) ⟨a, ha, hit'⟩ ru)
    (fun ρ H s hP S hg hI Q hQ => by
      refine hide fun hG hF => ?_
      obtain ⟨a, ha, hit⟩ := hP
      obtain ⟨o, g, vs, m, rfl, r⟩ := S.at_ (of_decide_eq_true hg) ha
      refine hF ?_
      clear hF hG
      refine wpAny_pyNext_list_end hh hit ⟨_, g, rfl, m, rfl⟩ (by simp [r.length]) fun h' he => ?_
      exact hQ h' s.toks fun b o hb e => he b o hb e)
    (fun ρ H i s hP S hg Q hQ => by
      obtain ⟨a, ha, hit⟩ := hP
      exact wpAny_pyIter_listiter hit hQ)

/-- over a range -/
theorem iw_range {tg : Expr} {a b : Int} {I : Addr} (hh : A.handled = none) (ht : soleTarget tg = true) :
    IW B A env tg (.ref I) (rangeL a b) (fun _ => true) (· = I) (fun _ => False) (fun ρ i s => Off B env ρ (· = I) ∧ (i : Int) ≤ (b - a).toNat ∧ IsRangeIter s.heap I (a + i) (((b - a).toNat : Int) - i) 1) :=
  iw_one (P := fun _ i h => (i : Int) ≤ (b - a).toNat ∧ IsRangeIter h I (a + i) (((b - a).toNat : Int) - i) 1) ht (fun _ _ _ h => ⟨_, h.2⟩)
    (fun _ _ _ _ _ h _ hk => ⟨h.1, hk _ h.2⟩)
    (fun ρ H i s y hP S hg hI hi Q hQ => by
      unfold rangeL at hi
      rw [List.getElem?_map] at hi
      refine hide fun hG hF => ?_
      obtain ⟨j, hj, rfl⟩ := Option.map_eq_some_iff.mp hi
      obtain ⟨h1, h2⟩ := List.getElem?_eq_some_iff.mp hj
      refine hF ?_
      clear hF hG
      rw [List.length_range] at h1
      rw [List.getElem_range] at h2
      subst h2
      refine wpAny_pyNext_range_item hP.2 (by omega) fun h' hit' hs' => ?_
      refine hQ _ h' _ (fun b o hb e => (hs'.2 b hb).trans e) ⟨by omega, ?_⟩ (.int ..)
      have e1 : a + (i : Int) + 1 = a + ((i + 1 : Nat) : Int) := by omega
      have e2 : ((b - a).toNat : Int) - i - 1 = ((b - a).toNat : Int) - ((i + 1 : Nat) : Int) := by omega
      rw [← e1, ← e2]; exact hit')
    (fun ρ H s hP S hg hI Q hQ => by
      have hlen : (rangeL a b).length = (b - a).toNat := by simp [rangeL]
      rw [hlen] at hP
      exact wpAny_pyNext_range_end hh hP.2 (by omega) fun h' he => hQ h' s.toks fun b o hb e => he b o hb e)
    (fun ρ H i s hP S hg Q hQ => wpAny_pyIter_rangeiter hP.2 hQ)

/-- over a text's signs -/
theorem iw_ascii {tg : Expr} {x : Str} {t : Tok} {I : Addr} (hh : A.handled = none) (ht : soleTarget tg = true) :
    IW B A env tg (.ref I) (x.cps.toList.map fun c => [AV.str ⟨#[c]⟩]) (fun _ => true) (· = I) (fun _ => False) (fun ρ i s => Off B env ρ (· = I) ∧ s.heap.IsStrIter I "str_ascii_iterator" x t i) :=
  iw_one (P := fun _ i h => h.IsStrIter I "str_ascii_iterator" x t i) ht (fun _ _ _ ⟨o, ho, _⟩ => ⟨o, ho⟩)
    (fun _ _ _ _ _ ⟨o, ho, r⟩ _ hk => ⟨o, hk o ho, r⟩)
    (fun ρ H i s y hP S hg hI hi Q hQ => by
      rw [List.getElem?_map] at hi
      obtain ⟨c, hc, rfl⟩ := Option.map_eq_some_iff.mp hi
      exact wpAny_pyNext_ascii_item hP (by simpa using hc) fun h' hit' hs' => hQ _ h' _ (fun b o hb e => (hs'.2 b hb).trans e) hit' (.str ..))
    (fun ρ H s hP S hg hI Q hQ => wpAny_pyNext_ascii_end hh hP (by simp) fun h' he => hQ h' s.toks fun b o hb e => he b o hb e)
    (fun ρ H i s hP S hg Q hQ => wpAny_pyIter_striter_ascii hP hQ)
theorem iw_wide {tg : Expr} {x : Str} {t : Tok} {I : Addr} (hh : A.handled = none) (ht : soleTarget tg = true) :
    IW B A env tg (.ref I) (x.cps.toList.map fun c => [AV.str ⟨#[c]⟩]) (fun _ => true) (· = I) (fun _ => False) (fun ρ i s => Off B env ρ (· = I) ∧ s.heap.IsStrIter I "str_iterator" x t i) :=
  iw_one (P := fun _ i h => h.IsStrIter I "str_iterator" x t i) ht (fun _ _ _ ⟨o, ho, _⟩ => ⟨o, ho⟩)
    (fun _ _ _ _ _ ⟨o, ho, r⟩ _ hk => ⟨o, hk o ho, r⟩)
    (fun ρ H i s y hP S hg hI hi Q hQ => by
      rw [List.getElem?_map] at hi
      obtain ⟨c, hc, rfl⟩ := Option.map_eq_some_iff.mp hi
      exact wpAny_pyNext_wide_item hP (by simpa using hc) fun h' hit' hs' => hQ _ h' _ (fun b o hb e => (hs'.2 b hb).trans e) hit' (.str ..))
    (fun ρ H s hP S hg hI Q hQ => wpAny_pyNext_wide_end hh hP (by simp) fun h' he => hQ h' s.toks fun b o hb e => he b o hb e)
    (fun ρ H i s hP S hg Q hQ => wpAny_pyIter_striter_wide hP hQ)

/-- over a dict's keys -/
theorem iw_dict {tg : Expr} {k : Nat} {x : List (Int × Int)} {I : Addr} (G : Gd B) (hh : A.handled = none) (ht : soleTarget tg = true) :
    IW B A env tg (.ref I) (x.map fun p => [AV.int p.1]) (fun h => decide (h[k]? = some (.dict x))) (· = I) (fun _ => False)
      (fun ρ i s => Off B env ρ (· = I) ∧ ∃ a, ρ[k]? = some a ∧ s.heap.IsKeyIter I a i x.length x.length) :=
  iw_one (P := fun ρ i h => ∃ a, ρ[k]? = some a ∧ h.IsKeyIter I a i x.length x.length) ht (fun _ _ _ ⟨_, _, o, ho, _⟩ => ⟨o, ho⟩)
    (fun _ _ _ _ _ ⟨a, h1, o, ho, r⟩ hp hk => ⟨a, pre_get hp h1, o, hk o ho, r⟩)
    (fun ρ H i s y hP S hg hI hi Q hQ => by
      refine hide fun hG hF => ?_
      obtain ⟨a, ha, hit⟩ := hP
      obtain ⟨_, kvs, hd, hk, _⟩ := dict_at G S (of_decide_eq_true hg) ha
      refine hF ?_
      clear hF hG
      have hl : kvs.length = x.length := by simpa using congrArg List.length hk
      rw [List.getElem?_map] at hi
      obtain ⟨p, hp, rfl⟩ := Option.map_eq_some_iff.mp hi
      have hkv : (kvs.map (·.1))[i]? = some p.1 := by rw [hk, List.getElem?_map, hp]; rfl
      rw [List.getElem?_map] at hkv
      obtain ⟨⟨kk, vv⟩, hq, e⟩ := Option.map_eq_some_iff.mp hkv
      simp only at e
      subst e
      refine wpAny_pyNext_dict_item (by rw [hl]; exact hit) hd hq fun key h' hkey hit' hs' => ?_
      obtain ⟨t, rfl⟩ := Value.isInt_shape hkey
      exact hQ _ h' s.toks (fun b o hb e => (hs'.2 b hb).trans e) ⟨a, ha, by rw [hl] at hit'; exact hit'⟩ (.int ..))
    (fun ρ H s hP S hg hI Q hQ => by
      refine hide fun hG hF => ?_
      obtain ⟨a, ha, hit⟩ := hP
      obtain ⟨_, kvs, hd, hk, _⟩ := dict_at G S (of_decide_eq_true hg) ha
      refine hF ?_
      clear hF hG
      have hl : kvs.length = x.length := by simpa using congrArg List.length hk
      refine wpAny_pyNext_dict_end hh (by rw [hl]; exact hit) hd (by simp [hl]) fun h' he => ?_
      exact hQ h' s.toks fun b o hb e => he b o hb e)
    (fun ρ H i s hP S hg Q hQ => by
      obtain ⟨a, ha, hit⟩ := hP
      exact wpAny_pyIter_keyiter hit hQ)

theorem zipL_get : ∀ (x y : List AV) (i : Nat) (p : List AV), (zipL x y)[i]? = some p → ∃ a b, p = [a, b] ∧ x[i]? = some a ∧ y[i]? = some b
  | [], _, i, p, h => by simp [zipL] at h
  | _ :: _, [], i, p, h => by simp [zipL] at h
  | a :: r, b :: q, 0, p, h => by simp [zipL] at h; exact ⟨a, b, h.symm, rfl, rfl⟩
  | a :: r, b :: q, i + 1, p, h => by simpa using zipL_get r q i p (by simpa [zipL] using h)
theorem zipL_end : ∀ (x y : List AV), x[(zipL x y).length]? = none ∨ y[(zipL x y).length]? = none
  | [], _ => .inl rfl
  | _ :: _, [] => .inr rfl
  | a :: r, b :: q => by simpa [zipL] using zipL_end r q
/-- a zip's places -/
noncomputable def ZW (z TI TO i1 i2 : Addr) (a : Addr) : Prop := a = z ∨ a = TI ∨ a = TO ∨ a = i1 ∨ a = i2
inductive ZJ (B : Bs) (env : Env) (j k : Nat) (z TI TO i1 i2 : Addr) (ρ : List Addr) (i : Nat) (s : Shared) : Prop
  | mk (f : Off B env ρ (ZW z TI TO i1 i2)) (l1 l2 : Addr) (h1 : ρ[j]? = some l1) (h2 : ρ[k]? = some l2) (D : ZipApart z TI TO i1 i2 l1 l2) (hz : IsZip s.heap z TI TO .none) (hTI : IsPair s.heap TI (.ref i1) (.ref i2))
    (hTO : ∃ a b, IsPair s.heap TO a b) (hi1 : s.heap.IsListIter i1 l1 i) (hi2 : s.heap.IsListIter i2 l2 i)
noncomputable def ZG (j k : Nat) (x y : List AV) (h : AH) : Bool := decide (h[j]? = some (.list x)) && decide (h[k]? = some (.list y))
theorem zg_is {j k : Nat} {x y : List AV} {h : AH} (e : ZG j k x y h = true) : h[j]? = some (.list x) ∧ h[k]? = some (.list y) := by
  unfold ZG at e
  simpa using e
/-- over two lists side by side -/
theorem iw_zip {tg : Expr} {j k : Nat} {x y : List AV} {z TI TO i1 i2 : Addr} (hh : A.handled = none) (ht : isPairTarget tg = true) :
    IW B A env tg (.ref z) (zipL x y) (ZG j k x y) (ZW z TI TO i1 i2) (fun _ => False) (ZJ B env j k z TI TO i1 i2) where
  off := fun _ _ _ ⟨h, _, _, _, _, _, _, _, _, _, _⟩ => h
  move := fun ρ ρ' i s s' h e => by
    refine hide fun hG hF => ?_
    obtain ⟨f, l1, l2, h1, h2, D, hz, hTI, ⟨a, b, hTO⟩, hi1, hi2⟩ := h
    refine hF ?_
    clear hF hG
    have kp : ∀ c o, ZW z TI TO i1 i2 c → s.heap.get? c = some o → s'.heap.get? c = some o := fun c o hc ho =>
      e.kept c o ho (fun hm => f.ref c hm hc) (fun q => f.own c q hc)
    refine hide fun hG hF => ?_
    obtain ⟨o1, g1, r1⟩ := hi1
    obtain ⟨o2, g2, r2⟩ := hi2
    refine hF ?_
    clear hF hG
    refine ⟨off_move f e fun c hc => ?_, l1, l2, pre_get e.pre h1, pre_get e.pre h2, D, kp z _ (by simp [ZW]) hz, kp TI _ (by simp [ZW]) hTI, ⟨a, b, kp TO _ (by simp [ZW]) hTO⟩, ⟨o1, kp i1 o1 (by simp [ZW]) g1, r1⟩, ⟨o2, kp i2 o2 (by simp [ZW]) g2, r2⟩⟩
    rcases hc with rfl | rfl | rfl | rfl | rfl
    · exact ⟨_, hz⟩
    · exact ⟨_, hTI⟩
    · exact ⟨_, hTO⟩
    · exact ⟨_, g1⟩
    · exact ⟨_, g2⟩
  item := fun ρ H i s p h S hg hi => by
    refine hide fun hG hF => ?_
    obtain ⟨f, l1, l2, h1, h2, D, hz, hTI, ⟨a, b, hTO⟩, hi1, hi2⟩ := h
    refine hF ?_
    clear hF hG
    replace hg := zg_is hg
    refine hide fun hG hF => ?_
    obtain ⟨o1, g1, vs, n1, rfl, r1⟩ := S.at_ hg.1 h1
    obtain ⟨o2, g2, ws, n2, rfl, r2⟩ := S.at_ hg.2 h2
    obtain ⟨p1, p2, rfl, q1, q2⟩ := zipL_get x y i p hi
    obtain ⟨u1, e1, v1⟩ := r1.get i p1 q1
    obtain ⟨u2, e2, v2⟩ := r2.get i p2 q2
    refine hF ?_
    clear hF hG
    refine wpAny_pyNext_zip_item D hz hTI hTO hi1 hi2 ⟨_, g1, rfl, n1, rfl⟩ ⟨_, g2, rfl, n2, rfl⟩ (by simpa using e1) (by simpa using e2) fun h' hz' hTO' hi1' hi2' hP hsz hk => ⟨_, rfl, ?_⟩
    obtain ⟨ts, tn, tp, rfl⟩ : ∃ ts tn tp, tg = .Tuple ts tn tp := by
      exact pair_inv ht
    refine wpAny_letOwnedTupleGo_zip hz' fun h'' hz'' hs'' => ?_
    have newT : s.heap.objs.size ≠ z := fun q => by
      have := Heap.lt_size hz
      rw [← q] at this; exact Nat.lt_irrefl _ this
    have kz : ∀ c o, c ≠ z → h'.get? c = some o → h''.get? c = some o := fun c o hc ho => (hs''.2 c hc).trans ho
    refine hide fun hG hF => ?_
    obtain ⟨oo1, gg1, rr1⟩ := hi1'
    obtain ⟨oo2, gg2, rr2⟩ := hi2'
    refine hF ?_
    clear hF hG
    refine ⟨Kp.heapOnly (tk := s.toks) fun c o hc ho => ?_, ⟨f, l1, l2, h1, h2, D, hz'', ?_, ⟨_, _, kz TO _ D.TOz hTO'⟩, ⟨oo1, kz i1 oo1 D.i1z gg1, rr1⟩, ⟨oo2, kz i2 oo2 D.i2z gg2, rr2⟩⟩, ?_⟩
    · simp only [ZW, not_or] at hc
      exact kz c o hc.1 (hk c o hc.1 hc.2.2.1 hc.2.2.2.1 hc.2.2.2.2 ho)
    · exact kz TI _ D.TIz (hk TI _ D.TIz D.TITO D.TIi1 D.TIi2 hTI)
    · exact ⟨_, u1, u2, rfl, ⟨_, kz _ _ newT hP, rfl, 0, rfl⟩, v1, v2⟩
  done := fun ρ H s h S hg => by
    refine hide fun hG hF => ?_
    obtain ⟨f, l1, l2, h1, h2, D, hz, hTI, ⟨a, b, hTO⟩, hi1, hi2⟩ := h
    refine hF ?_
    clear hF hG
    replace hg := zg_is hg
    refine hide fun hG hF => ?_
    obtain ⟨o1, g1, vs, n1, rfl, r1⟩ := S.at_ hg.1 h1
    obtain ⟨o2, g2, ws, n2, rfl, r2⟩ := S.at_ hg.2 h2
    refine hF ?_
    clear hF hG
    refine wpAny_pyNext_zip_end hh D hz hTI hTO hi1 hi2 ⟨_, g1, rfl, n1, rfl⟩ ⟨_, g2, rfl, n2, rfl⟩ ?_ fun h' hk => ⟨rfl, Kp.heapOnly (tk := s.toks) fun c o hc ho => ?_⟩
    · rcases zipL_end x y with q | q
      · left
        have : x.length ≤ (zipL x y).length := by simpa using q
        rw [r1.length] at this
        simpa using this
      · right
        have : y.length ≤ (zipL x y).length := by simpa using q
        rw [r2.length] at this
        simpa using this
    · simp only [ZW, not_or] at hc
      exact hk c o hc.1 hc.2.2.1 hc.2.2.2.1 hc.2.2.2.2 ho
  self := fun ρ H i s h S hg => by
    obtain ⟨f, l1, l2, h1, h2, D, hz, _, _, _, _⟩ := h
    exact wpAny_pyIter_zip hz ⟨rfl, rfl⟩
end

/-- a step of an iterator: it changes its own places alone, none of which stood in s₀ -/
inductive Stp (B : Bs) (env : Env) (s₀ : Shared) (ρ : List Addr) (s s' : Shared) : Prop
  | mk (wr : Addr → Prop) (gw : Nat → Prop) (off : Off B env ρ wr) (hw : ∀ a o, s₀.heap.get? a = some o → ¬ wr a) (hg : ∀ (i : Nat) x, s₀.gens[i]? = some x → ¬ gw i) (kp : Kp wr gw s s')
/-- an iterator whose places may grow -/
structure IX (B : Bs) (A : Around) (env : Env) (tg : Expr) (it : Value) (items : List (List AV)) (g : AH → Bool) (s₀ : Shared) (J : List Addr → Nat → Shared → Prop) : Prop where
  move : ∀ ρ ρ' i s s', J ρ i s → Ext ρ (own env) s ρ' s' → J ρ' i s'
  item : ∀ ρ H i s x, J ρ i s → St B ρ H s.heap → (∀ b, own env b → ∃ o, s.heap.get? b = some o) → g H = true → items[i]? = some x →
    wpAny (MM B) A (pyNext it) (fun r s₁ => ∃ v, r = some v ∧ wpAny (MM B) A (letOwnedTupleGo tg it v) (fun _ s₂ => Stp B env s₀ ρ s s₂ ∧ J ρ (i + 1) s₂ ∧ IT B ρ x v s₂.heap) never s₁) never s
  done : ∀ ρ H s, J ρ items.length s → St B ρ H s.heap → (∀ b, own env b → ∃ o, s.heap.get? b = some o) → g H = true → wpAny (MM B) A (pyNext it) (fun r s₁ => r = none ∧ Stp B env s₀ ρ s s₁) never s
  self : ∀ ρ H i s, J ρ i s → St B ρ H s.heap → g H = true → wpAny (MM B) A (pyIter it) (fun v s₁ => v = it ∧ s₁ = s) never s
section
variable {B : Bs} {A : Around} {env : Env} {tg : Expr} {it : Value} {items : List (List AV)} {g : AH → Bool} {s₀ s₁ : Shared} {J : List Addr → Nat → Shared → Prop} {wr : Addr → Prop} {gw : Nat → Prop}
theorem IW.up (W : IW B A env tg it items g wr gw J) (hw : ∀ a o, s₀.heap.get? a = some o → ¬ wr a) (hg : ∀ (i : Nat) x, s₀.gens[i]? = some x → ¬ gw i) : IX B A env tg it items g s₀ J where
  move := W.move
  item := fun ρ H i s x j S _ h hi => wpAny_mono (W.item ρ H i s x j S h hi) (fun r s₁ q => by
    obtain ⟨v, e, q⟩ := q
    exact ⟨v, e, wpAny_mono q (fun _ s₂ q => ⟨⟨wr, gw, W.off _ _ _ j, hw, hg, q.1⟩, q.2⟩) fun _ _ z => z⟩) fun _ _ z => z
  done := fun ρ H s j S _ h => wpAny_mono (W.done ρ H s j S h) (fun r s₁ q => ⟨q.1, wr, gw, W.off _ _ _ j, hw, hg, q.2⟩) fun _ _ z => z
  self := W.self
theorem Stp.mono {ρ : List Addr} {s s' : Shared} (h : ∀ a o, s₁.heap.get? a = some o → ∃ o', s₀.heap.get? a = some o') (hg : ∀ (i : Nat) x, s₁.gens[i]? = some x → ∃ y, s₀.gens[i]? = some y) (x : Stp B env s₀ ρ s s') : Stp B env s₁ ρ s s' := by
  obtain ⟨wr, gw, a, b, c, d⟩ := x
  exact ⟨wr, gw, a, fun a o e => let ⟨o', e'⟩ := h a o e; b a o' e', fun i x e => let ⟨y, e'⟩ := hg i x e; c i y e', d⟩
theorem IX.mono (h : ∀ a o, s₁.heap.get? a = some o → ∃ o', s₀.heap.get? a = some o') (hg : ∀ (i : Nat) x, s₁.gens[i]? = some x → ∃ y, s₀.gens[i]? = some y) (W : IX B A env tg it items g s₀ J) : IX B A env tg it items g s₁ J where
  move := W.move
  item := fun ρ H i s x j S al g hi => wpAny_mono (W.item ρ H i s x j S al g hi) (fun r s₁ q => by
    obtain ⟨v, e, q⟩ := q
    exact ⟨v, e, wpAny_mono q (fun _ s₂ q => ⟨q.1.mono h hg, q.2⟩) fun _ _ z => z⟩) fun _ _ z => z
  done := fun ρ H s j S al g => wpAny_mono (W.done ρ H s j S al g) (fun r s₁ q => ⟨q.1, q.2.mono h hg⟩) fun _ _ z => z
  self := W.self
theorem Fm.al {env : Env} {ρ : List Addr} {l : AL} {h : Heap} (F : Fm B env ρ l h) : ∀ b, own env b → ∃ o, h.get? b = some o := fun b hb => by
  rcases hb with q | ⟨x, hx, hc⟩
  · refine hide fun hG hF => ?_
    obtain ⟨m, ⟨o, _, _, ho, _⟩, _⟩ := F.ns
    refine hF ?_
    clear hF hG
    rw [q]; exact ⟨o, ho⟩
  · refine hide fun hG hF => ?_
    obtain ⟨c, w, h1, ⟨o, ho, _⟩, _⟩ := F.cel x hx
    refine hF ?_
    clear hF hG
    rw [hc] at h1; cases h1
    exact ⟨o, ho⟩
end
end Mine
end
section
/-! Loops. -/
namespace Mine
open PySem PySem.Spec PySem.Calls PyProof.Rows

section
variable {B : Bs} {n : Nat} {A : Around} {env : Env} {l l₁ : AL} {ρ : List Addr} {s : Shared} {H : AH}
inductive TP (B : Bs) (env : Env) (l₁ : AL) (ρ : List Addr) (H : AH) (s : Shared) (w : Unit) (s' : Shared) : Prop
  | mk (x : Ext ρ (own env) s ρ s') (F : Fm B env ρ l₁ s'.heap) (S : St B ρ H s'.heap)
theorem store_ok {x : Str} {p : Pos} {a : AV} {u : Value} (F : Fm B env ρ l s.heap) (S : St B ρ H s.heap) (hx : isVar env.scope.names x = true) (r : VR B ρ a u) :
    wpAny (MM B) A (assign (.Name x p) env u) (TP B env (put l x a) ρ H s) never s :=
  wpAny_assign_Name (F.store S hx r fun h' tk e F' S' => ⟨e, F', S'⟩)
theorem keeps_fm {h' : Heap} (F : Fm B env ρ l s.heap) (hk : ∀ b o, s.heap.get? b = some o → h'.get? b = some o) : Fm B env ρ l h' :=
  F.move (s' := { s with heap := h' }) (Ext.keeps (tk := s.toks) hk)
theorem bindT_ok {N : Names} {tg : Expr} {x : List AV} {v : Value} (hh : A.handled = none) (hN : env.scope.names = N) (h : bindT N tg x l = some l₁) (F : Fm B env ρ l s.heap) (S : St B ρ H s.heap) (r : IT B ρ x v s.heap) :
    wpAny (MM B) A (assign tg env v) (TP B env l₁ ρ H s) never s := by
  subst hN
  cases bindS_inv h with
  | one hx => exact store_ok F S hx r
  | @two x y px py q k w u hx hy =>
    obtain ⟨T, u₁, u₂, rfl, hT, r1, r2⟩ := r
    rw [arm_assign_Tuple]
    refine wpAny_bind (wpAny_standAt (wpAny_unpack_tuple hh hT rfl rfl fun h' he => ?_))
    have hk : ∀ b o, s.heap.get? b = some o → h'.get? b = some o := fun b o e => he b o (Nat.ne_of_lt (Heap.lt_size e)) e
    have e0 : Ext ρ (own env) s ρ { s with heap := h' } := Ext.keeps (tk := s.toks) hk
    show wpAny _ _ (do holding [u₂] (assign (.Name x px) env u₁); assignInOrder [assign (.Name y py) env] [u₂]) _ _ _
    refine wpAny_bind (wpAny_holding (wpAny_mono (store_ok (keeps_fm F hk) (S.keeps hk) hx r1) (fun _ s₂ h₂ => ?_) fun _ _ z => z))
    obtain ⟨x2, F2, S2⟩ := h₂
    show wpAny _ _ (do holding [] (assign (.Name y py) env u₂); assignInOrder [] []) _ _ _
    refine wpAny_bind (wpAny_holding (wpAny_mono (store_ok F2 S2 hy r2) (fun _ s₃ h₃ => ?_) fun _ _ z => z))
    obtain ⟨x3, F3, S3⟩ := h₃
    exact wpAny_pure ⟨(e0.trans x2).trans x3, F3, S3⟩

theorem for_loop {R : Result → Shared → Prop} {target : Expr} {it : Value} {body : List Stmt} (I : Nat → Shared → Prop)
    (turn : ∀ n s, I n s → wpAny (MM B) A (pyNext it) (fun r s₁ => match r with
      | none => R (.ok .next) s₁
      | some v => wpAny (MM B) A (letOwnedTupleGo target it v) (fun _ s₂ => wpAny (MM B) A (assign target env v) (fun _ s₃ => wpAny (MM B) A (execs body env) (fun f s₄ => match f with
          | .next | .cont => ∃ m, m < n ∧ I m s₄
          | .brk => R (.ok .next) s₄
          | .ret v => R (.ok (.ret v)) s₄) never s₃) never s₂) never s₁) never s)
    (n : Nat) (h : I n s) : codeAny (MM B) A (.forLoop target it body [] env) R s := by
  refine codeAny_loop' rfl I (fun n s hI => ?_) n h
  show wpAny _ _ ((forTurn target it body [] env).onRaise (fun x => do noteFrame x env; theTreesLotGoes x)) _ _ s
  refine wpAny_noted (wp_false ?_)
  simp only [forTurn]
  refine wpAny_bind (wpAny_standAt (wpAny_bind (wpAny_onRaise (wpAny_mono (turn n s hI) (fun r s₁ h₁ => ?_) fun _ _ h' => h'.elim))))
  cases r with
  | none => exact wpAny_pure (.inr ⟨rfl, codeAny_block (wpAny_execs_nil h₁)⟩)
  | some v =>
    refine wpAny_bind (wpAny_mono h₁ (fun _ s₂ h₂ => ?_) fun _ _ h' => h')
    refine wpAny_bind (wpAny_mono h₂ (fun _ s₃ h₃ => wpAny_bind (wpAny_mono h₃ (fun f s₄ h₄ => ?_) fun _ _ h' => h')) fun _ _ h' => h')
    cases f with
    | next => exact wpAny_pure (.inl ⟨rfl, h₄⟩)
    | cont => exact wpAny_pure (.inl ⟨rfl, h₄⟩)
    | brk => exact wpAny_pure h₄
    | ret v => exact wpAny_pure h₄

/-- what holds ahead of a turn -/
inductive ForI (B : Bs) (env : Env) (E : Evs) (N : Names) (tg : Expr) (body : List Stmt) (items : List (List AV)) (gd : AH → Bool) (J : List Addr → Nat → Shared → Prop) (s₀ : Shared) (ρ₀ : List Addr) (f : AF) (lf : AL) (Hf : AH) (k : Nat) (s' : Shared) : Prop
  | mk (i : Nat) (ρ' : List Addr) (l' : AL) (H' : AH) (hk : k = items.length - i) (hi : i ≤ items.length) (h : forIt (bindT N tg) (fun l H => E.x body N l H) gd (items.drop i) l' H' = some (f, lf, Hf)) (e : Ext ρ₀ (own env) s₀ ρ' s') (F : Fm B env ρ' l' s'.heap) (S : St B ρ' H' s'.heap) (j : J ρ' i s')
theorem for_ok {E : Evs} {N : Names} {tg : Expr} {body : List Stmt} {it : Value} {items : List (List AV)} {gd : AH → Bool} {J : List Addr → Nat → Shared → Prop} {s₀ : Shared} {ρ₀ : List Addr}
    {f : AF} {lf : AL} {Hf : AH} (g : GX B n E) (ft : Fit n A) (hN : env.scope.names = N) (W : IX B A env tg it items gd s₀ J)
    (h : forIt (bindT N tg) (fun l H => E.x body N l H) gd items l H = some (f, lf, Hf)) (e : Ext ρ₀ (own env) s₀ ρ s) (F : Fm B env ρ l s.heap) (S : St B ρ H s.heap) (j : J ρ 0 s) :
    codeAny (MM B) A (.forLoop tg it body [] env) (fun r s' => match r with | .ok fl => XP B env ρ₀ s₀ f lf Hf fl s' | .error _ => False) s := by
  refine for_loop (ForI B env E N tg body items gd J s₀ ρ₀ f lf Hf) ?_ items.length
    ⟨0, ρ, l, H, rfl, Nat.zero_le _, h, e, F, S, j⟩
  rintro k s' ⟨i, ρ', l', H', rfl, hi, h', e', F', S', j'⟩
  cases hx : items[i]? with
  | none =>
    have hlen : i = items.length := Nat.le_antisymm hi (by simpa using hx)
    subst hlen
    rw [List.drop_length] at h'
    obtain ⟨hgd, h'⟩ := if_inv h'
    refine res3 h' ?_
    refine wpAny_mono (W.done _ _ s' j' S' F'.al hgd) (fun r s₁ q => ?_) fun _ _ z => z
    obtain ⟨rfl, wr, gw, off, hw, hgw, kp⟩ := q
    exact ⟨ρ', e'.kp hw hgw kp, F'.kp off kp, S'.kp off kp, .next⟩
  | some x =>
    have hlt : i < items.length := (List.getElem?_eq_some_iff.mp hx).1
    have hd : items.drop i = x :: items.drop (i + 1) := by
      rw [List.drop_eq_getElem_cons hlt]
      congr 1
      exact (List.getElem?_eq_some_iff.mp hx).2
    rw [hd] at h'
    obtain ⟨hgd, h'⟩ := if_inv h'
    obtain ⟨l₁, hb, h'⟩ := bind_inv h'
    refine wpAny_mono (W.item ρ' H' i s' x j' S' F'.al hgd hx) (fun r s₁ q => ?_) fun _ _ z => z
    obtain ⟨v, rfl, q⟩ := q
    refine wpAny_mono q (fun _ s₂ q => ?_) fun _ _ z => z
    refine hide fun hG hF => ?_
    obtain ⟨⟨wr, gw, off, hw, hgw, kp⟩, j₂, it₂⟩ := q
    refine hF ?_
    clear hF hG
    have e₂ := e'.kp hw hgw kp
    refine wpAny_mono (bindT_ok ft.handled hN hb (F'.kp off kp) (S'.kp off kp) it₂) (fun _ s₃ q => ?_) fun _ _ z => z
    obtain ⟨x3, F3, S3⟩ := q
    have e₃ := e₂.trans x3
    have j₃ := W.move _ _ _ _ _ j₂ x3
    clear hb off hw hgw kp j₂ it₂ e₂ x3 F' S' j' e'
    split at h'
    · rename_i l₂ H₂ hbody
      refine wpAny_mono (g body N l₁ H' _ _ _ hbody A env ρ' s₃ ft hN F3 S3) (fun fl s₄ q => ?_) fun _ _ z => z
      obtain ⟨ρ₄, x4, F4, S4, fr⟩ := q
      cases fr
      exact ⟨items.length - (i + 1), by omega, i + 1, ρ₄, l₂, H₂, rfl, hlt, h', e₃.trans x4, F4, S4, W.move _ _ _ _ _ j₃ x4⟩
    · rename_i l₂ H₂ hbody
      refine res3 h' ?_
      refine wpAny_mono (g body N l₁ H' _ _ _ hbody A env ρ' s₃ ft hN F3 S3) (fun fl s₄ q => ?_) fun _ _ z => z
      obtain ⟨ρ₄, x4, F4, S4, fr⟩ := q
      cases fr
      exact ⟨ρ₄, e₃.trans x4, F4, S4, .next⟩
    · rename_i y l₂ H₂ hbody
      refine res3 h' ?_
      refine wpAny_mono (g body N l₁ H' _ _ _ hbody A env ρ' s₃ ft hN F3 S3) (fun fl s₄ q => ?_) fun _ _ z => z
      obtain ⟨ρ₄, x4, F4, S4, fr⟩ := q
      cases fr with
      | ret rv => exact ⟨ρ₄, e₃.trans x4, F4, S4, .ret rv⟩
    · exact nn h'
end
end Mine
end
section
/-! Tests; comprehensions. -/
namespace Mine
open PySem PySem.Spec PySem.Calls PyProof.Rows

section
variable {B : Bs} {n : Nat} {A : Around} {env : Env} {E : Evs} {N : Names} {l l₁ : AL} {ρ : List Addr} {s : Shared} {H H' : AH}
/-- what holds behind a test -/
inductive BP (B : Bs) (env : Env) (l : AL) (ρ : List Addr) (s : Shared) (b : Bool) (H' : AH) (c : Bool) (s' : Shared) : Prop
  | mk (hc : c = b) (ρ' : List Addr) (x : Ext ρ noO s ρ' s') (F : Fm B env ρ' l s'.heap) (S : St B ρ' H' s'.heap)
theorem no_marks {op : CmpOp} {e : Expr} (h : noSet e = true) : behindInMarks op e = false := by
  cases e <;> first | rfl | cases h
theorem truthy_bool {b : Bool} {Q : Bool → Shared → Prop} (h : Q b s) : wpAny (MM B) A (truthy (.bool b)) Q never s := wpAny_truthy_bool h
theorem cmp_two (G : Gd B) (g : GE B n E) (ft : Fit n A) (hN : env.scope.names = N) {a b : Expr} {op : CmpOp} {u v : AV} {H₁ H₂ : AH} {c : Bool} (h1 : E.e a N l H = some (u, H₁)) (h2 : E.e b N l H₁ = some (v, H₂)) (hc : cmpop op u v H₂ = some c)
    (F : Fm B env ρ l s.heap) (S : St B ρ H s.heap) {Q : Value → Shared → Prop}
    (hQ : ∀ s' ρ', Ext ρ noO s ρ' s' → Fm B env ρ' l s'.heap → St B ρ' H₂ s'.heap → Q (.bool c) s') :
    wpAny (MM B) A (eval a env) (fun x s₁ => wpAny (MM B) A (eval b env) (fun y s₂ => wpAny (MM B) A (compareOp op x y) Q never s₂) never s₁) never s := by
  refine wpAny_mono (g a N l H u H₁ h1 A env ρ s ft hN F S) (fun x s₁ p => ?_) fun _ _ z => z
  obtain ⟨ρ₁, x1, F1, S1, r1⟩ := p
  refine wpAny_mono (g b N l H₁ v H₂ h2 A env ρ₁ s₁ ft hN F1 S1) (fun y s₂ p => ?_) fun _ _ z => z
  obtain ⟨ρ₂, x2, F2, S2, r2⟩ := p
  refine wpAny_mono (cmpop_ok G ft hc S2 (r1.mono x2.pre) r2) (fun w s₃ p => ?_) fun _ _ z => z
  obtain ⟨rfl, tk, rfl⟩ := p
  exact hQ _ ρ₂ ((x1.trans x2).trans Ext.toks) F2 S2

theorem cmpV_inv {op : CmpOp} {u v : AV} {H : AH} {b : Bool} {H' : AH} (h : cmpV op u v H = some (b, H')) : cmpop op u v H = some b ∧ H' = H := by
  obtain ⟨c, h1, h2⟩ := map_inv h
  cases h2
  exact ⟨h1, rfl⟩
theorem test1_ok (G : Gd B) (g : GE B n E) (ft : Fit n A) (hN : env.scope.names = N) {a b : Expr} {op : CmpOp} {u v : AV} {H₁ H₂ : AH} {q : Bool} {p : Pos} (hb : noSet b = true) (h1 : E.e a N l H = some (u, H₁)) (h2 : E.e b N l H₁ = some (v, H₂)) (hc : cmpop op u v H₂ = some q)
    (F : Fm B env ρ l s.heap) (S : St B ρ H s.heap) : wpAny (MM B) A (isTrue (.Compare a [op] [b] p) env (eval (.Compare a [op] [b] p) env)) (BP B env l ρ s q H₂) never s :=
  wpAny_isTrue_Compare1 (cmp_two G g ft hN h1 h2 hc F S fun s' ρ' x' F' S' => truthy_bool ⟨rfl, ρ', x', F', S'⟩) (no_marks hb)
theorem test2_ok (G : Gd B) (g : GE B n E) (ft : Fit n A) (hN : env.scope.names = N) {a b c : Expr} {op op' : CmpOp} {u v : AV} {H₁ H₂ : AH} {q r : Bool} {p : Pos} (hb : noSet c = true) (h1 : E.e a N l H = some (u, H₁)) (h2 : E.e b N l H₁ = some (v, H₂)) (hc : cmpop op u v H₂ = some q)
    (h : (if q = true then obind (E.e c N l H₂) fun z H₄ => cmpV op' v z H₄ else some (false, H₂)) = some (r, H')) (F : Fm B env ρ l s.heap) (S : St B ρ H s.heap) : wpAny (MM B) A (isTrue (.Compare a [op, op'] [b, c] p) env (eval (.Compare a [op, op'] [b, c] p) env)) (BP B env l ρ s r H') never s := by
  refine isTrue_chain (hm := by show lastMarks [op'] [c] = false; exact no_marks hb) ?_
  refine wpAny_mono (g a N l H u H₁ h1 A env ρ s ft hN F S) (fun x s₁ p => ?_) fun _ _ z => z
  obtain ⟨ρ₁, x1, F1, S1, r1⟩ := p
  refine test_link (wpAny_mono (g b N l H₁ v H₂ h2 A env ρ₁ s₁ ft hN F1 S1) (fun y s₂ p => ?_) fun _ _ z => z)
  obtain ⟨ρ₂, x2, F2, S2, r2⟩ := p
  refine wpAny_mono (cmpop_ok G ft hc S2 (r1.mono x2.pre) r2) (fun w s₃ p => ?_) fun _ _ z => z
  obtain ⟨rfl, tk, rfl⟩ := p
  refine truthy_bool ?_
  cases q with
  | true =>
    rw [if_pos rfl] at h ⊢
    obtain ⟨w, H₃, h3, h⟩ := obind_inv h
    obtain ⟨hc', rfl⟩ := cmpV_inv h
    refine test_last (wpAny_mono (g c N l H₂ w _ h3 A env ρ₂ _ ft hN F2 S2) (fun y' s₄ p => ?_) fun _ _ z => z)
    obtain ⟨ρ₄, x4, F4, S4, r4⟩ := p
    refine wpAny_mono (cmpop_ok G ft hc' S4 (r2.mono x4.pre) r4) (fun q s₅ p => ?_) fun _ _ z => z
    obtain ⟨rfl, tk', rfl⟩ := p
    exact truthy_bool ⟨rfl, ρ₄, (((x1.trans x2).trans (Ext.toks (tk := tk))).trans x4).trans Ext.toks, F4, S4⟩
  | false =>
    rw [if_neg Bool.false_ne_true] at h ⊢
    refine res2 h ?_
    exact ⟨rfl, ρ₂, (x1.trans x2).trans Ext.toks, F2, S2⟩
theorem test_ok (G : Gd B) (g : GE B n E) (ft : Fit n A) (hN : env.scope.names = N) {e : Expr} {b : Bool} (h : test E N l e H = some (b, H')) (F : Fm B env ρ l s.heap) (S : St B ρ H s.heap) :
    wpAny (MM B) A (isTrue e env (eval e env)) (BP B env l ρ s b H') never s := by
  unfold test at h
  cases hc : cmpParts e with
  | none =>
    rw [hc] at h
    obtain ⟨hp, h⟩ := if_inv h
    obtain ⟨w, H₁, h1, h⟩ := obind_inv h
    obtain ⟨b', rfl, h⟩ := onBool_inv h
    refine res2 h ?_
    refine isTrue_plain (wpAny_mono (g _ N l H _ _ h1 A env ρ s ft hN F S) (fun x s₁ p => ?_) fun _ _ z => z) ?_
    · obtain ⟨ρ₁, x1, F1, S1, r1⟩ := p
      refine VR.boolE r1 ?_
      exact truthy_bool ⟨rfl, ρ₁, x1, F1, S1⟩
    · clear h1 hc
      cases e <;> first | rfl | cases hp
  | some q =>
    obtain ⟨a, ops, cs⟩ := q
    rw [hc] at h
    obtain ⟨p, rfl⟩ := cmpParts_inv hc
    cases ops with
    | nil => exact nn h
    | cons op ops =>
      cases ops with
      | nil =>
        obtain ⟨b', rfl, h⟩ := onOne_inv h
        obtain ⟨hb, h⟩ := if_inv h
        obtain ⟨u, H₁, h1, h⟩ := obind_inv h
        obtain ⟨v, H₂, h2, h⟩ := obind_inv h
        obtain ⟨h3, rfl⟩ := cmpV_inv h
        exact test1_ok G g ft hN hb h1 h2 h3 F S
      | cons op' ops =>
        obtain ⟨q, h⟩ := if_inv h
        obtain rfl := nil_of q
        obtain ⟨b', c, rfl, h⟩ := onTwo_inv h
        obtain ⟨hb, h⟩ := if_inv h
        obtain ⟨u, H₁, h1, h⟩ := obind_inv h
        obtain ⟨v, H₂, h2, h⟩ := obind_inv h
        obtain ⟨r, H₃, h3, h5⟩ := obind_inv h
        obtain ⟨h4, rfl⟩ := cmpV_inv h3
        exact test2_ok G g ft hN hb h1 h2 h4 h5 F S

theorem or_ok {e : Expr} {q b : Bool} {H₁ : AH} {k : Bool → Shared → Prop} (G : Gd B) (g : GE B n E) (ft : Fit n A) (hN : env.scope.names = N) (h1 : test E N l e H = some (q, H₁)) (F : Fm B env ρ l s.heap) (S : St B ρ H s.heap)
    (hk : ∀ s' ρ', Ext ρ noO s ρ' s' → Fm B env ρ' l s'.heap → St B ρ' H₁ s'.heap → k q s') : wpAny (MM B) A (isTrue e env (eval e env)) k never s := by
  refine wpAny_mono (test_ok G g ft hN h1 F S) (fun c s₁ p => ?_) fun _ _ z => z
  obtain ⟨rfl, ρ₁, x1, F1, S1⟩ := p
  exact hk s₁ ρ₁ x1 F1 S1
theorem BP.after {ρ₁ : List Addr} {s₁ s₂ : Shared} {b c : Bool} (x : Ext ρ noO s ρ₁ s₁) (h : BP B env l ρ₁ s₁ b H' c s₂) : BP B env l ρ s b H' c s₂ := by
  obtain ⟨h1, ρ₂, x2, F2, S2⟩ := h
  exact ⟨h1, ρ₂, x.trans x2, F2, S2⟩
theorem condOr_ok (G : Gd B) (g : GE B n E) (ft : Fit n A) (hN : env.scope.names = N) {es : List Expr} {b : Bool} {p : Pos} (h : condOr E N l es H = some (b, H')) (F : Fm B env ρ l s.heap) (S : St B ρ H s.heap) :
    wpAny (MM B) A (isTrue (.BoolOp .Or es p) env (eval (.BoolOp .Or es p) env)) (BP B env l ρ s b H') never s := by
  cases es with
  | nil => exact nn h
  | cons x es =>
    cases es with
    | nil => exact nn h
    | cons y es =>
      cases es with
      | nil =>
        obtain ⟨q, H₁, h1, h⟩ := obind_inv h
        refine isTrue_or (or_ok (b := b) G g ft hN h1 F S fun s₁ ρ₁ x1 F1 S1 => ?_)
        cases q with
        | true => rw [if_pos rfl] at h ⊢; refine res2 h ?_; exact ⟨rfl, ρ₁, x1, F1, S1⟩
        | false =>
          rw [if_neg Bool.false_ne_true] at h ⊢
          refine isTrue_or (or_ok (b := b) G g ft hN h F1 S1 fun s₂ ρ₂ x2 F2 S2 => ?_)
          cases b with
          | true => rw [if_pos rfl]; exact ⟨rfl, ρ₂, x1.trans x2, F2, S2⟩
          | false => rw [if_neg Bool.false_ne_true]; exact isTrue_or_nil ⟨rfl, ρ₂, x1.trans x2, F2, S2⟩
      | cons z es =>
        obtain ⟨hq, h⟩ := if_inv h
        obtain rfl := nil_of hq
        obtain ⟨q, H₁, h1, h⟩ := obind_inv h
        refine isTrue_or (or_ok (b := b) G g ft hN h1 F S fun s₁ ρ₁ x1 F1 S1 => ?_)
        cases q with
        | true => rw [if_pos rfl] at h ⊢; refine res2 h ?_; exact ⟨rfl, ρ₁, x1, F1, S1⟩
        | false =>
          rw [if_neg Bool.false_ne_true] at h ⊢
          obtain ⟨q, H₂, h2, h⟩ := obind_inv h
          refine isTrue_or (or_ok (b := b) G g ft hN h2 F1 S1 fun s₂ ρ₂ x2 F2 S2 => ?_)
          cases q with
          | true => rw [if_pos rfl] at h ⊢; refine res2 h ?_; exact ⟨rfl, ρ₂, x1.trans x2, F2, S2⟩
          | false =>
            rw [if_neg Bool.false_ne_true] at h ⊢
            refine isTrue_or (or_ok (b := b) G g ft hN h F2 S2 fun s₃ ρ₃ x3 F3 S3 => ?_)
            cases b with
            | true => rw [if_pos rfl]; exact ⟨rfl, ρ₃, (x1.trans x2).trans x3, F3, S3⟩
            | false => rw [if_neg Bool.false_ne_true]; exact isTrue_or_nil ⟨rfl, ρ₃, (x1.trans x2).trans x3, F3, S3⟩
theorem cond_ok (G : Gd B) (g : GE B n E) (ft : Fit n A) (hN : env.scope.names = N) {e : Expr} {b : Bool} (h : cond E N l e H = some (b, H')) (F : Fm B env ρ l s.heap) (S : St B ρ H s.heap) :
    wpAny (MM B) A (isTrue e env (eval e env)) (BP B env l ρ s b H') never s := by
  unfold cond at h
  cases hc : orParts e with
  | some es =>
    rw [hc] at h
    obtain ⟨p, rfl⟩ := orParts_inv hc
    exact condOr_ok G g ft hN h F S
  | none =>
    rw [hc] at h
    dsimp only at h
    split at h
    · exact nn h
    · exact test_ok G g ft hN h F S
end
end Mine
end
section
/-! Comprehensions. -/
namespace Mine
open PySem PySem.Spec PySem.Calls PyProof.Rows

noncomputable def closL (cells : List (Str × Addr)) : Names → List (Str × Addr) → List (Str × Addr)
  | [], acc => acc
  | (n, k) :: r, acc => if k == .free then (match cells.lookup n with
    | some c => closL cells r ((n, c) :: acc)
    | none => closL cells r acc) else closL cells r acc
theorem clos_for {env : Env} (f : Str × NameKind → List (Str × Addr) → Sem (ForInStep (List (Str × Addr))))
    (hf : ∀ n k acc, f (n, k) acc = if k == .free then (do let c ← cellOf env n; pure (.yield ((n, c) :: acc))) else pure (.yield acc)) :
    ∀ (names : Names) (acc : List (Str × Addr)), (∀ p ∈ names, p.2 = .free → (env.cells.lookup p.1).isSome = true) → forIn names acc f = pure (closL env.cells names acc)
  | [], acc, _ => rfl
  | (n, k) :: r, acc, h => by
    have hr : ∀ p ∈ r, p.2 = .free → (env.cells.lookup p.1).isSome = true := fun p hp => h p (.tail _ hp)
    rw [List.forIn_cons, hf]
    unfold closL
    by_cases hk : (k == .free) = true
    · rw [if_pos hk, if_pos hk]
      obtain ⟨c, hc⟩ := Option.isSome_iff_exists.mp (h (n, k) (.head _) (by simpa using hk))
      unfold cellOf
      simp only at hc
      rw [hc]
      simp only [pure_bind]
      exact clos_for f hf r _ hr
    · rw [if_neg hk, if_neg hk]
      simp only [pure_bind]
      exact clos_for f hf r _ hr
theorem closure_is {scope : Scope} {env : Env} (h : ∀ p ∈ scope.names, p.2 = .free → (env.cells.lookup p.1).isSome = true) : closureFor scope env = pure (closL env.cells scope.names []) := by
  simp only [closureFor]
  rw [clos_for (env := env) _ (fun n k acc => rfl) scope.names [] h]
  rfl
theorem closL_sound {cells : List (Str × Addr)} : ∀ (names : Names) (acc : List (Str × Addr)), (∀ y c, acc.lookup y = some c → cells.lookup y = some c) → ∀ y c, (closL cells names acc).lookup y = some c → cells.lookup y = some c
  | [], acc, h, y, c, e => h y c e
  | (n, k) :: r, acc, h, y, c, e => by
    unfold closL at e
    split at e
    · split at e
      · rename_i c' hc'
        refine closL_sound r _ (fun y' c'' q => ?_) y c e
        rw [List.lookup_cons] at q
        by_cases z : y' = n
        · subst z
          simp only [beq_self_eq_true] at q
          rw [← q]; exact hc'
        · have : (y' == n) = false := by simpa using z
          simp only [this] at q
          exact h y' c'' q
      · exact closL_sound r acc h y c e
    · exact closL_sound r acc h y c e
theorem closL_has {cells : List (Str × Addr)} {y : Str} : ∀ (names : Names) (acc : List (Str × Addr)), ((acc.lookup y).isSome = true ∨ ((y, NameKind.free) ∈ names ∧ (cells.lookup y).isSome = true)) → ((closL cells names acc).lookup y).isSome = true
  | [], acc, h => by
    rcases h with h | h
    · exact h
    · cases h.1
  | (n, k) :: r, acc, h => by
    unfold closL
    split
    · rename_i hk
      have hk' : k = .free := by simpa using hk
      split
      · rename_i c hc
        refine closL_has r _ ?_
        by_cases z : y = n
        · left; rw [List.lookup_cons]; simp [z]
        · have q : (y == n) = false := by simpa using z
          rcases h with h | h
          · left; rw [List.lookup_cons]; simp only [q]; exact h
          · right
            refine ⟨?_, h.2⟩
            rcases List.mem_cons.mp h.1 with e | e
            · cases e; exact absurd rfl z
            · exact e
      · rename_i hc
        refine closL_has r _ ?_
        rcases h with h | h
        · exact .inl h
        · right
          refine ⟨?_, h.2⟩
          rcases List.mem_cons.mp h.1 with e | e
          · cases e; rw [hc] at h; cases h.2
          · exact e
    · rename_i hk
      refine closL_has r _ ?_
      rcases h with h | h
      · exact .inl h
      · right
        refine ⟨?_, h.2⟩
        rcases List.mem_cons.mp h.1 with e | e
        · cases e; simp at hk
        · exact e

/-- the names as the comprehension's frame has them -/
theorem relabel_names {env : Env} {sc : Scope} (hk : env.scope.kind = .function) (h : ∀ p ∈ sc.names, p.2 = .free → env.kindOf p.1 = some .cell) : (relabel sc env).names = compNames sc.names := by
  unfold relabel compNames
  simp only
  refine List.map_congr_left fun p hp => ?_
  obtain ⟨n, k⟩ := p
  by_cases q : k = .free
  · subst q
    have := h _ hp rfl
    simp only at this
    simp [hk, this]
  · simp [q]
theorem compNames_lookup (x : Str) : ∀ (N : Names), (compNames N).lookup x = (N.lookup x).map fun k => if k = .free then .cell else k
  | [] => rfl
  | (n, k) :: r => by
    unfold compNames
    rw [List.map_cons]
    have ih := compNames_lookup x r
    unfold compNames at ih
    by_cases q : x = n
    · subst q
      by_cases z : k = .free
      · simp [z, List.lookup_cons]
      · simp [z, List.lookup_cons]
    · have q' : (x == n) = false := by simpa using q
      by_cases z : k = .free
      · simp only [z, if_true, List.lookup_cons, q']; exact ih
      · simp only [z, if_false, List.lookup_cons, q']; exact ih
theorem compOk_of {N : Names} {sc : Scope} (h : compOk N sc = true) : sc.kind = .function ∧ (∀ p ∈ sc.names, p.2 ≠ .cell) ∧ (∀ p ∈ sc.names, p.2 = .free → N.lookup p.1 = some .cell) ∧ (∀ p ∈ sc.names, p.2 = .local → sc.names.lookup p.1 = some .local) := by
  unfold compOk at h
  simp only [Bool.and_eq_true, List.all_eq_true, Bool.or_eq_true, bne_iff_ne, beq_iff_eq, ne_eq] at h
  refine ⟨h.1, fun p hp => (h.2 p hp).1.1, fun p hp q => ?_, fun p hp q => ?_⟩
  · rcases (h.2 p hp).1.2 with z | z
    · exact absurd q z
    · exact z
  · rcases (h.2 p hp).2 with z | z
    · exact absurd q z
    · exact z

section
variable {B : Bs} {n : Nat} {A : Around} {env : Env} {E : Evs} {N : Names} {l l₁ : AL} {ρ : List Addr} {s : Shared} {H H' : AH}
/-- a store into a local name -/
theorem storeL_ok {x : Str} {p : Pos} {a : AV} {u : Value} (F : Fm B env ρ l s.heap) (S : St B ρ H s.heap) (hx : env.kindOf x = some .local) (r : VR B ρ a u) :
    wpAny (MM B) A (assign (.Name x p) env u) (fun _ s' => Ext ρ (· = env.locals) s ρ s' ∧ Fm B env ρ (put l x a) s'.heap ∧ St B ρ H s'.heap) never s := by
  refine wpAny_assign_Name ?_
  obtain ⟨m, hn, hm⟩ := F.ns
  refine wpAny_storeName_local hx hn (fun h' hn' hs' => ?_) (by rw [F.kind]; rfl)
  have hk : ∀ b o, b ≠ env.locals → s.heap.get? b = some o → h'.get? b = some o := fun b o hb e => (hs'.2 b hb).trans e
  refine ⟨⟨List.prefix_rfl, fun _ h => .inl h, fun b o e _ hb => hk b o hb e, fun b o e => ?_, fun _ _ e => e, fun h => h, rfl⟩, ⟨F.kind, F.glb, F.blt, ⟨_, hn', fun y a e ky => ?_⟩, fun y ky => ?_, F.inj, F.locR, F.base⟩, S.keepsBut F.locR F.base hk⟩
  · by_cases q : b = env.locals
    · subst q; obtain ⟨o', _, _, ho', _⟩ := hn'; exact ⟨o', ho'⟩
    · exact ⟨o, hk b o q e⟩
  · by_cases q : y = x
    · subst q
      simp only [put, if_true] at e
      refine res1 e ?_
      exact ⟨u, by simp, r⟩
    · simp only [put, if_neg q] at e ⊢
      exact hm y a e ky
  · refine hide fun hG hF => ?_
    obtain ⟨c, w, h1, ⟨o, ho, hd⟩, h3, h4, h5, h6⟩ := F.cel y ky
    refine hF ?_
    clear hF hG
    refine ⟨c, w, h1, ⟨o, hk c o h5 ho, hd⟩, h3, h4, h5, fun a e => ?_⟩
    have q : y ≠ x := fun q => by subst q; rw [hx] at ky; cases ky
    simp only [put, if_neg q] at e
    exact h6 a e
theorem bindK_ok {tg : Expr} {x : List AV} {v : Value} (hh : A.handled = none) (hN : ∀ y, N.lookup y = some .local → env.kindOf y = some .local) (h : bindK N tg x l = some l₁) (F : Fm B env ρ l s.heap) (S : St B ρ H s.heap) (r : IT B ρ x v s.heap) :
    wpAny (MM B) A (assign tg env v) (fun _ s' => Ext ρ (· = env.locals) s ρ s' ∧ Fm B env ρ l₁ s'.heap ∧ St B ρ H s'.heap) never s := by
  cases bindS_inv h with
  | one hx => exact storeL_ok F S (hN _ (of_decide_eq_true hx)) r
  | @two x y px py k q w u hx hy =>
    obtain ⟨T, u₁, u₂, rfl, hT, r1, r2⟩ := r
    rw [arm_assign_Tuple]
    refine wpAny_bind (wpAny_standAt (wpAny_unpack_tuple hh hT rfl rfl fun h' he => ?_))
    have hk : ∀ b o, s.heap.get? b = some o → h'.get? b = some o := fun b o e => he b o (Nat.ne_of_lt (Heap.lt_size e)) e
    have e0 : Ext ρ (· = env.locals) s ρ { s with heap := h' } := Ext.keeps (tk := s.toks) hk
    show wpAny _ _ (do holding [u₂] (assign (.Name x px) env u₁); assignInOrder [assign (.Name y py) env] [u₂]) _ _ _
    refine wpAny_bind (wpAny_holding (wpAny_mono (storeL_ok (keeps_fm F hk) (S.keeps hk) (hN _ (of_decide_eq_true hx)) r1) (fun _ s₂ h₂ => ?_) fun _ _ z => z))
    obtain ⟨x2, F2, S2⟩ := h₂
    show wpAny _ _ (do holding [] (assign (.Name y py) env u₂); assignInOrder [] []) _ _ _
    refine wpAny_bind (wpAny_holding (wpAny_mono (storeL_ok F2 S2 (hN _ (of_decide_eq_true hy)) r2) (fun _ s₃ h₃ => ?_) fun _ _ z => z))
    obtain ⟨x3, F3, S3⟩ := h₃
    exact wpAny_pure ⟨(e0.trans x2).trans x3, F3, S3⟩

theorem comp_loop {R : Result → Shared → Prop} {elt target iter : Expr} {ifs : List Expr} {scope : Scope} {pos : Pos} {it acc : Value} (I : Nat → Shared → Prop)
    (turn : ∀ n s, I n s → wpAny (MM B) A (pyNext it) (fun r s₁ => match r with
      | none => R (.ok .next) s₁
      | some v => wpAny (MM B) A (letOwnedTupleGo target it v) (fun _ s₂ => wpAny (MM B) A (assign target env v) (fun _ s₃ =>
          wpAny (MM B) A (forIn ifs true fun c r => if r = true then do let ok ← isTrue c env (eval c env); pure (ForInStep.yield ok) else pure (ForInStep.yield r)) (fun ok s₄ =>
            if ok = true then wpAny (MM B) A (eval elt env) (fun x s₅ => wpAny (MM B) A (call (.builtin "list.append") [acc, x]) (fun _ s₆ => ∃ m, m < n ∧ I m s₆) never s₅) never s₄
            else ∃ m, m < n ∧ I m s₄) never s₃) never s₂) never s₁) never s)
    (n : Nat) (h : I n s) : codeAny (MM B) A (.compLoop (.ListComp elt [⟨target, iter, ifs, 0⟩] scope pos) 0 it acc env) R s := by
  refine codeAny_loop rfl I (fun n s hI => ?_) n h
  show wpAny _ A ((compTurn (.ListComp elt [⟨target, iter, ifs, 0⟩] scope pos) 0 it acc env).onRaise (fun x => do noteFrame x env; theTreesLotGoes x)) _ _ s
  refine wpAny_noted (wp_false ?_)
  rw [compTurn_list]
  refine wpAny_bind (wpAny_standAt (wpAny_bind (wpAny_mono (turn n s hI) (fun r s₁ h₁ => ?_) fun _ _ h' => h')))
  cases r with
  | none => exact wpAny_pure h₁
  | some v =>
    refine wpAny_bind (wpAny_mono h₁ (fun _ s₂ h₂ => ?_) fun _ _ h' => h')
    refine wpAny_bind (wpAny_mono h₂ (fun _ s₃ h₃ => wpAny_bind (wpAny_mono h₃ (fun ok s₄ h₄ => ?_) fun _ _ h' => h')) fun _ _ h' => h')
    cases ok with
    | false => exact wpAny_pure ⟨rfl, h₄⟩
    | true =>
      exact wpAny_bind (wpAny_bind (wpAny_mono h₄ (fun x s₅ h₅ => wpAny_bind (wpAny_mono h₅ (fun _ s₆ h₆ => wpAny_pure (wpAny_pure ⟨rfl, h₆⟩)) fun _ _ h' => h')) fun _ _ h' => h'))
theorem tests_ok (G : Gd B) (g : GE B n E) (ft : Fit n A) (hN : env.scope.names = N) {ifs : List Expr} {b : Bool} (h : tests E N l ifs H = some (b, H')) (F : Fm B env ρ l s.heap) (S : St B ρ H s.heap) :
    wpAny (MM B) A (forIn ifs true fun c r => if r = true then do let ok ← isTrue c env (eval c env); pure (ForInStep.yield ok) else pure (ForInStep.yield r)) (BP B env l ρ s b H') never s := by
  cases ifs with
  | nil => refine res2 h ?_; exact wpAny_tests_nil ⟨rfl, ρ, .refl, F, S⟩
  | cons c r =>
    obtain ⟨q, h⟩ := if_inv h
    obtain rfl := nil_of q
    exact wpAny_tests_one (test_ok G g ft hN h F S)
end
end Mine
end
section
/-! Comprehensions, whole. -/
namespace Mine
open PySem PySem.Spec PySem.Calls PyProof.Rows

/-- an iterator made since s₀, ready to go -/
noncomputable def Iter (B : Bs) (A : Around) (tg : Expr) (items : List (List AV)) (gd : AH → Bool) (s₀ : Shared) (ρ₁ : List Addr) (s₂ : Shared) (itV : Value) : Prop :=
  ∃ wr : Addr → Prop, (∀ a o, s₀.heap.get? a = some o → ¬ wr a) ∧ (∀ a, wr a → ∃ o, s₂.heap.get? a = some o) ∧ (∀ a ∈ ρ₁, ¬ wr a) ∧
    ∀ env', Off B env' ρ₁ wr → ∃ J, IX B A env' tg itV items gd s₀ J ∧ J ρ₁ 0 s₂
/-- the same, of places that stay the same -/
noncomputable def IterO (B : Bs) (A : Around) (tg : Expr) (items : List (List AV)) (gd : AH → Bool) (s₀ : Shared) (ρ₁ : List Addr) (s₂ : Shared) (itV : Value) : Prop :=
  ∃ wr gw, (∀ a o, s₀.heap.get? a = some o → ¬ wr a) ∧ (∀ a, wr a → ∃ o, s₂.heap.get? a = some o) ∧ (∀ a ∈ ρ₁, ¬ wr a) ∧ (∀ (i : Nat) g, s₀.gens[i]? = some g → ¬ gw i) ∧
    ∀ env', Off B env' ρ₁ wr → ∃ J, IW B A env' tg itV items gd wr gw J ∧ J ρ₁ 0 s₂
theorem IterO.up {B : Bs} {A : Around} {tg : Expr} {items : List (List AV)} {gd : AH → Bool} {s₀ : Shared} {ρ₁ : List Addr} {s₂ : Shared} {itV : Value} (h : IterO B A tg items gd s₀ ρ₁ s₂ itV) : Iter B A tg items gd s₀ ρ₁ s₂ itV := by
  obtain ⟨wr, gw, w1, w2, w3, w4, w5⟩ := h
  exact ⟨wr, w1, w2, w3, fun env' off => let ⟨J, W, j⟩ := w5 env' off; ⟨J, W.up w1 w4, j⟩⟩

section
variable {B : Bs} {n : Nat} {A : Around} {env : Env} {E : Evs} {N : Names} {l l₁ : AL} {ρ : List Addr} {s : Shared} {H H' : AH}
/-- what holds ahead of a turn -/
inductive CompI (B : Bs) (cenv : Env) (E : Evs) (tg elt : Expr) (ifs : List Expr) (sc : Scope) (items : List (List AV)) (gd : AH → Bool) (J : List Addr → Nat → Shared → Prop) (s₀ : Shared) (ρ₀ : List Addr) (D : Nat) (Da : Addr) (Hf : AH) (k : Nat) (s' : Shared) : Prop
  | mk (i : Nat) (ρ' : List Addr) (lc' : AL) (H' : AH) (hk : k = items.length - i) (hi : i ≤ items.length) (h : compIt (bindK sc.names tg) (fun l H => tests E (compNames sc.names) l ifs H) (fun l H => E.e elt (compNames sc.names) l H) gd D (items.drop i) lc' H' = some Hf)
    (e : Ext ρ₀ (· = cenv.locals) s₀ ρ' s') (F : Fm B cenv ρ' lc' s'.heap) (S : St B ρ' H' s'.heap) (j : J ρ' i s') (hD : ρ'[D]? = some Da)
inductive CompR (B : Bs) (cenv : Env) (s₀ : Shared) (ρ₀ : List Addr) (D : Nat) (Da : Addr) (Hf : AH) (s' : Shared) : Prop
  | mk (ρ' : List Addr) (e : Ext ρ₀ (· = cenv.locals) s₀ ρ' s') (S : St B ρ' Hf s'.heap) (m : ∃ m, s'.heap.Ns cenv.locals m) (hD : ρ'[D]? = some Da) (hl : cenv.locals ∉ ρ')
theorem comp_code {cenv : Env} {elt tg iter : Expr} {ifs : List Expr} {sc : Scope} {pos : Pos} {it : Value} {items : List (List AV)} {gd : AH → Bool} {J : List Addr → Nat → Shared → Prop}
    {s₀ : Shared} {ρ₀ : List Addr} {lc : AL} {D : Nat} {Da : Addr} {Hf : AH} (G : Gd B) (g : GE B n E) (ft : Fit n A) (hN : cenv.scope.names = compNames sc.names) (W : IX B A cenv tg it items gd s₀ J)
    (h : compIt (bindK sc.names tg) (fun l H => tests E (compNames sc.names) l ifs H) (fun l H => E.e elt (compNames sc.names) l H) gd D items lc H = some Hf)
    (e : Ext ρ₀ (· = cenv.locals) s₀ ρ s) (F : Fm B cenv ρ lc s.heap) (S : St B ρ H s.heap) (j : J ρ 0 s) (hD : ρ[D]? = some Da) :
    codeAny (MM B) A (.compLoop (.ListComp elt [⟨tg, iter, ifs, 0⟩] sc pos) 0 it (.ref Da) cenv)
      (fun r s' => match r with | .ok _ => CompR B cenv s₀ ρ₀ D Da Hf s' | .error _ => False) s := by
  have hloc : ∀ y, sc.names.lookup y = some .local → cenv.kindOf y = some .local := fun y q => by
    show cenv.scope.names.lookup y = _
    rw [hN, compNames_lookup, q]; rfl
  have toOwn : ∀ {ρ ρ' : List Addr} {s s' : Shared}, Ext ρ (· = cenv.locals) s ρ' s' → Ext ρ (own cenv) s ρ' s' := fun x => x.mono fun a q => .inl q
  refine comp_loop (CompI B cenv E tg elt ifs sc items gd J s₀ ρ₀ D Da Hf) ?_ items.length
    ⟨0, ρ, lc, H, rfl, Nat.zero_le _, h, e, F, S, j, hD⟩
  rintro k s' ⟨i, ρ', lc', H', rfl, hi, h', e', F', S', j', hD'⟩
  cases hx : items[i]? with
  | none =>
    have hlen : i = items.length := Nat.le_antisymm hi (by simpa using hx)
    subst hlen
    rw [List.drop_length] at h'
    obtain ⟨hgd, h'⟩ := if_inv h'
    refine res1 h' ?_
    refine wpAny_mono (W.done _ _ s' j' S' F'.al hgd) (fun r s₁ q => ?_) fun _ _ z => z
    obtain ⟨rfl, wr, gw, off, hw, hgw, kp⟩ := q
    obtain ⟨m, hm, _⟩ := (F'.kp off kp).ns
    exact ⟨ρ', e'.kp hw hgw kp, S'.kp off kp, ⟨m, hm⟩, hD', F'.locR⟩
  | some x =>
    have hlt : i < items.length := (List.getElem?_eq_some_iff.mp hx).1
    have hd : items.drop i = x :: items.drop (i + 1) := by
      rw [List.drop_eq_getElem_cons hlt]
      congr 1
      exact (List.getElem?_eq_some_iff.mp hx).2
    rw [hd] at h'
    refine hide fun hG hF => ?_
    obtain ⟨hgd, h'⟩ := if_inv h'
    obtain ⟨l₁, hb, h'⟩ := bind_inv h'
    obtain ⟨qb, H₁, ht, h'⟩ := obind_inv h'
    refine hF ?_
    clear hF hG
    refine wpAny_mono (W.item ρ' H' i s' x j' S' F'.al hgd hx) (fun r s₁ q => ?_) fun _ _ z => z
    obtain ⟨v, rfl, q⟩ := q
    refine wpAny_mono q (fun _ s₂ q => ?_) fun _ _ z => z
    refine hide fun hG hF => ?_
    obtain ⟨⟨wr, gw, off, hw, hgw, kp⟩, j₂, it₂⟩ := q
    refine hF ?_
    clear hF hG
    have e₂ := e'.kp hw hgw kp
    refine wpAny_mono (bindK_ok ft.handled hloc hb (F'.kp off kp) (S'.kp off kp) it₂) (fun _ s₃ q => ?_) fun _ _ z => z
    obtain ⟨x3, F3, S3⟩ := q
    have e₃ := e₂.trans x3
    have j₃ := W.move _ _ _ _ _ j₂ (toOwn x3)
    clear hb off hw hgw kp j₂ it₂ e₂ x3 F' S' j' e'
    refine wpAny_mono (tests_ok G g ft hN ht F3 S3) (fun ok s₄ q => ?_) fun _ _ z => z
    obtain ⟨rfl, ρ₄, x4, F4, S4⟩ := q
    have e₄ := e₃.trans x4.any
    have j₄ := W.move _ _ _ _ _ j₃ x4.any
    have hD4 := pre_get x4.pre hD'
    clear e₃ j₃ F3 S3 x4 ht
    cases ok with
    | true =>
      rw [if_pos rfl] at h' ⊢
      refine hide fun hG hF => ?_
      obtain ⟨y, H₂, he, h'⟩ := obind_inv h'
      obtain ⟨yl, hy, h'⟩ := bind_inv h'
      obtain ⟨hs, h'⟩ := if_inv h'
      refine hF ?_
      clear hF hG
      refine wpAny_mono (g elt _ l₁ H₁ y H₂ he A cenv ρ₄ s₄ ft hN F4 S4) (fun u s₅ q => ?_) fun _ _ z => z
      obtain ⟨ρ₅, x5, F5, S5, r5⟩ := q
      have e₅ := e₄.trans x5.any
      have j₅ := W.move _ _ _ _ _ j₄ x5.any
      have hD5 := pre_get x5.pre hD4
      refine wpAny_mono (append_ok S5 (listAt_inv hy) hD5 hs r5) (fun w s₆ q => ?_) fun _ _ z => z
      obtain ⟨ρ₆, x6, S6, _⟩ := q
      exact ⟨items.length - (i + 1), by omega, i + 1, ρ₆, l₁, _, rfl, hlt, h', e₅.trans x6.any, F5.move x6, S6, W.move _ _ _ _ _ j₅ x6.any, pre_get x6.pre hD5⟩
    | false =>
      rw [if_neg Bool.false_ne_true] at h' ⊢
      exact ⟨items.length - (i + 1), by omega, i + 1, ρ₄, l₁, _, rfl, hlt, h', e₄, F4, S4, j₄, hD4⟩

theorem compIt_guard {bind : List AV → AL → Option AL} {ok : AL → AH → Option (Bool × AH)} {elt : AL → AH → Option (AV × AH)} {gd : AH → Bool} {D : Nat} {items : List (List AV)} {lc : AL} {Hf : AH} (h : compIt bind ok elt gd D items lc H = some Hf) : gd H = true := by
  cases items <;> exact (if_inv h).1
/-- the frame of a comprehension -/
theorem comp_frame {sc : Scope} {C : Addr} {h₁ : Heap} {m : Str → Option Value} (F : Fm B env ρ l h₁) (hN : env.scope.names = N) (ok : compOk N sc = true) (hns : h₁.Ns C m) (hC : C ∉ ρ) (hB : B.h₀.get? C = none) (hO : ¬ own env C) :
    Fm B (compEnvC sc (closL env.cells sc.names []) C env) ρ (compLocals sc.names l) h₁ := by
  obtain ⟨hk, hc, hf, hl⟩ := compOk_of ok
  subst hN
  have hnames : (compEnvC sc (closL env.cells sc.names []) C env).scope.names = compNames sc.names := relabel_names F.kind hf
  have kind : ∀ x, (compEnvC sc (closL env.cells sc.names []) C env).kindOf x = (sc.names.lookup x).map fun k => if k = .free then .cell else k := fun x => by
    show (compEnvC sc (closL env.cells sc.names []) C env).scope.names.lookup x = _
    rw [hnames, compNames_lookup]
  have memL : ∀ {x : Str} {k : NameKind}, sc.names.lookup x = some k → (x, k) ∈ sc.names := fun e => mem_of_lookup e
  have snd := closL_sound (cells := env.cells) sc.names [] (fun y c q => by simp at q)
  refine ⟨hk, F.glb, F.blt, ⟨m, hns, fun x v hx hkx => ?_⟩, fun x hkx => ?_, fun x y c hx hy => F.inj x y c (snd x c hx) (snd y c hy), hC, hB⟩
  · unfold compLocals at hx
    split at hx
    · rename_i q
      rw [kind, q] at hkx
      simp at hkx
    · exact nn hx
  · rw [kind] at hkx
    obtain ⟨k, e1, e2⟩ := Option.map_eq_some_iff.mp hkx
    have hfree : k = .free := by
      by_cases q : k = .free
      · exact q
      · rw [if_neg q] at e2
        subst e2
        exact absurd rfl (hc _ (memL e1))
    subst hfree
    refine hide fun hG hF => ?_
    obtain ⟨c, w, h1, h2, h3, h4, h5, h6⟩ := F.cel x (hf _ (memL e1) rfl)
    refine hF ?_
    clear hF hG
    obtain ⟨c', hc'⟩ := Option.isSome_iff_exists.mp (closL_has (cells := env.cells) (y := x) sc.names [] (.inr ⟨memL e1, by rw [h1]; rfl⟩))
    have e : c' = c := Option.some.inj ((snd x c' hc').symm.trans h1)
    subst e
    refine ⟨c', w, hc', h2, h3, h4, fun q => hO (.inr ⟨x, hf _ (memL e1) rfl, ?_⟩), fun v hv => ?_⟩
    · have q' : c' = C := q
      rw [← q']; exact h1
    · unfold compLocals at hv
      rw [if_pos e1] at hv
      exact h6 v hv

theorem listcomp_ok {use : Option (Value → Sem Unit)} {elt tg iter : Expr} {ifs : List Expr} {sc : Scope} {pos p' : Pos} {vs : List (List AV)} {gd : AH → Bool} {H₁ H₂ : AH} {Q : Value → Shared → Prop} (G : Gd B) (g : GE B n E) (ft : Fit n A) (hN : env.scope.names = N)
    (ok : compOk N sc = true) (hs : ∀ x, foldedSetIterable iter env x = pure x) (F : Fm B env ρ l s.heap) (S : St B ρ H s.heap)
    (hI : wpAny (MM B) A (eval iter env) (fun x s₁ => wpAny (MM B) A (pyIter x) (fun itV s₂ => ∃ ρ₁, Ext ρ noO s ρ₁ s₂ ∧ Fm B env ρ₁ l s₂.heap ∧ St B ρ₁ H₁ s₂.heap ∧ Iter B A tg vs gd s ρ₁ s₂ itV) never s₁) never s)
    (h : compIt (bindK sc.names tg) (fun l H => tests E (compNames sc.names) l ifs H) (fun l H => E.e elt (compNames sc.names) l H) gd H₁.length vs (compLocals sc.names l) (H₁ ++ [.list []]) = some H₂)
    (hfin : ∀ ρ' s' Da C, Ext ρ noO s ρ' s' → Fm B env ρ' l s'.heap → St B ρ' H₂ s'.heap → ρ'[H₁.length]? = some Da → (∃ m, s'.heap.Ns C m) → C ∉ ρ' → ¬ own env C → B.h₀.get? C = none → s.heap.get? C = none →
      compPost (MM B) A never use Q (.ref Da) C (.ok .next) s') :
    wpAny (MM B) A (comprehension (.ListComp elt [⟨tg, iter, ifs, 0⟩] sc pos) sc env p' (newList []) false (eval iter env) use) Q never s := by
  obtain ⟨hk, hc, hf, hl⟩ := compOk_of ok
  refine wpAny_comprehension_free (cl := closL env.cells sc.names []) rfl hs (closure_is fun p hp q => ?_) hk hl (wpAny_mono hI (fun x s₁ p => wpAny_mono p (fun itV s₂ p => ?_) fun _ _ z => z) fun _ _ z => z)
  · obtain ⟨c, w, h1, _⟩ := F.cel p.1 (by show env.scope.names.lookup p.1 = _; rw [hN]; exact hf p hp q)
    rw [h1]; rfl
  · obtain ⟨ρ₁, x1, F1, S1, wr, w1, w2, w3, w5⟩ := p
    refine wpAny_newObj_type (wpAny_newFunctionEnv hc (by intro y hy; simp at hy) (fun h₁ hns hsb => ?_) hk)
    dsimp only at hns hsb ⊢
    generalize hH : s₂.heap.push { cls := .type "list", dict := none, data := .seq ([] : List Value).toArray } = Hp at hns hsb ⊢
    have S2 : St B (ρ₁ ++ [s₂.heap.objs.size]) (H₁ ++ [.list []]) Hp := by
      rw [← hH]
      exact S1.alloc fun ρ' hp => ⟨[], 0, rfl, .nil⟩
    have x2 : Ext ρ₁ noO s₂ (ρ₁ ++ [s₂.heap.objs.size]) { s₂ with heap := Hp } := by
      rw [← hH]; exact Ext.push (tk := s₂.toks)
    have hk1 : ∀ b o, Hp.get? b = some o → h₁.get? b = some o := fun b o e => hsb.extBut b o (Nat.ne_of_lt (Heap.lt_size e)) (Heap.get?_push_of_some _ e)
    have x3 : Ext (ρ₁ ++ [s₂.heap.objs.size]) noO { s₂ with heap := Hp } (ρ₁ ++ [s₂.heap.objs.size]) { s₂ with heap := h₁, toks := s₂.toks + ([] : List (Str × Value)).length } := Ext.keeps hk1
    have S3 := S2.keeps hk1
    have newC : ∀ {h : Heap}, (∀ b o, h.get? b = some o → Hp.get? b = some o) → h.get? Hp.objs.size = none := fun {h} hh => by
      cases e : h.get? Hp.objs.size with
      | none => rfl
      | some o => exact absurd (Heap.lt_size (hh _ _ e)) (Nat.lt_irrefl _)
    have kpush : ∀ b o, s₂.heap.get? b = some o → Hp.get? b = some o := fun b o e => by rw [← hH]; exact Heap.get?_push_of_some _ e
    have C2 : s₂.heap.get? Hp.objs.size = none := newC kpush
    have C0 : s.heap.get? Hp.objs.size = none := by
      cases e : s.heap.get? Hp.objs.size with
      | none => rfl
      | some o => obtain ⟨o', e'⟩ := x1.alive _ _ e; rw [C2] at e'; exact nn e'
    have CB : B.h₀.get? Hp.objs.size = none := newC fun b o e => kpush b o (S1.keep b o e)
    have Cρ : Hp.objs.size ∉ ρ₁ ++ [s₂.heap.objs.size] := fun hm => by obtain ⟨o, e⟩ := S2.aliveAt hm; exact absurd (Heap.lt_size e) (Nat.lt_irrefl _)
    have CO : ¬ own env Hp.objs.size := fun q => by
      rcases q with q | ⟨y, hy, q⟩
      · refine hide fun hG hF => ?_
        obtain ⟨m, ⟨o, _, _, ho, _⟩, _⟩ := F1.ns
        refine hF ?_
        clear hF hG
        rw [← q, C2] at ho; exact nn ho
      · refine hide fun hG hF => ?_
        obtain ⟨c, w, h1, ⟨o, ho, _⟩, _⟩ := F1.cel y hy
        refine hF ?_
        clear hF hG
        rw [q] at h1; cases h1
        rw [C2] at ho; exact nn ho
    have F3 : Fm B env (ρ₁ ++ [s₂.heap.objs.size]) l h₁ := F1.move (x2.trans x3)
    have Fc := comp_frame F3 hN ok hns Cρ CB CO
    have hD : (ρ₁ ++ [s₂.heap.objs.size])[H₁.length]? = some s₂.heap.objs.size := by
      rw [← S1.len, List.getElem?_append_right (Nat.le_refl _)]; simp
    -- the iterator
    have hoff : Off B (compEnvC sc (closL env.cells sc.names []) Hp.objs.size env) ρ₁ wr := by
      refine ⟨w3, fun a ha hw => ?_, fun a o e hw => ?_⟩
      · obtain ⟨o, e⟩ := w2 a hw
        rcases ha with q | ⟨y, hy, q⟩
        · have q' : a = Hp.objs.size := q
          rw [q', C2] at e; exact nn e
        · have z := closL_sound (cells := env.cells) sc.names [] (fun y c q => by simp at q) y a q
          refine hide fun hG hF => ?_
          obtain ⟨c, w, h1, ⟨o', ho, _⟩, _⟩ := Fc.cel y hy
          refine hF ?_
          clear hF hG
          have q2 : c = a := Option.some.inj (h1.symm.trans q)
          subst q2
          -- a cell of the frame around, alive at the start
          have hky : env.kindOf y = some .cell := by
            have hnames : (compEnvC sc (closL env.cells sc.names []) Hp.objs.size env).scope.names = compNames sc.names := relabel_names F.kind (by subst hN; exact hf)
            have hy' : (compNames sc.names).lookup y = some .cell := by rw [← hnames]; exact hy
            rw [compNames_lookup] at hy'
            obtain ⟨k, e1, e2⟩ := Option.map_eq_some_iff.mp hy'
            by_cases qq : k = .free
            · subst qq; show env.scope.names.lookup y = _; rw [hN]; exact hf _ (mem_of_lookup e1) rfl
            · rw [if_neg qq] at e2; subst e2; exact absurd rfl (hc _ (mem_of_lookup e1))
          refine hide fun hG hF => ?_
          obtain ⟨c'', w'', g1, ⟨o'', ho'', _⟩, _⟩ := F.cel y hky
          refine hF ?_
          clear hF hG
          have : c'' = c := Option.some.inj (g1.symm.trans z)
          subst this
          exact w1 _ _ ho'' hw
      · exact w1 a o (S.keep a o e) hw
    obtain ⟨J, W, j⟩ := w5 _ hoff
    have e3 : Ext ρ noO s (ρ₁ ++ [s₂.heap.objs.size]) { s₂ with heap := h₁, toks := s₂.toks + ([] : List (Str × Value)).length } := (x1.trans x2).trans x3
    have j3 := W.move _ _ _ _ _ j (x2.trans x3).any
    have loop := comp_code (elt := elt) (iter := iter) (pos := pos) G g ft (relabel_names F.kind (by subst hN; exact hf)) W h e3.any Fc S3 j3 hD
    have loop' := codeAny_mono loop (R' := compPost (MM B) A never use Q (.ref s₂.heap.objs.size) Hp.objs.size) fun r s' q => ?_
    · exact codeAny_compStart_list loop' (wpAny_mono (W.self _ _ _ _ j3 S3 (compIt_guard h)) (fun v s' q => by obtain ⟨rfl, rfl⟩ := q; exact loop') fun _ _ z => z.elim)
    · cases r with
      | error e => exact q.elim
      | ok f =>
        obtain ⟨ρ', x', S', hm', hD', hC'⟩ := q
        have x'' : Ext ρ noO s ρ' s' := ⟨x'.pre, x'.new, fun b o e hb _ => x'.kept b o e hb fun q => (by have q' : b = Hp.objs.size := q; rw [q', C0] at e; exact nn e), x'.alive, x'.gens, x'.bare, x'.os⟩
        have := hfin ρ' s' _ Hp.objs.size x'' (F.move x'') S' hD' hm' hC' CO CB C0
        cases use <;> exact this
end
end Mine
end
section
/-! Calls by a name; what loops go over. -/
namespace Mine
open PySem PySem.Spec PySem.Calls PyProof.Rows

theorem isGlob_of {N : Names} {x : Str} (h : isGlob N x = true) : N.lookup x = some .globalImplicit := by
  unfold isGlob at h
  split at h
  · assumption
  · exact ff h
/-- the value of a global name -/
noncomputable def gval (f : Str) : Option Value := match bval f with
  | some v => some v
  | none => (faddr f).map .ref

section
variable {B : Bs} {n : Nat} {A : Around} {env : Env} {E : Evs} {N : Names} {l l₁ : AL} {ρ : List Addr} {s : Shared} {H H' : AH}
theorem glob_ok {f : Str} {p : Pos} {fv : Value} {Q : Value → Shared → Prop} (G : Gd B) (F : Fm B env ρ l s.heap) (S : St B ρ H s.heap) (hN : env.scope.names = N) (hf : isGlob N f = true) (hv : gval f = some fv) (h : Q fv s) :
    wpAny (MM B) A (eval (.Name f p) env) Q never s := by
  refine hide fun hG hF => ?_
  obtain ⟨mg, mb, g1, g2, g3, g4⟩ := G.gns
  refine hF ?_
  clear hF hG
  have hd : (f == ("__debug__" : Str)) = false := by
    by_cases q : f = "__debug__"
    · subst q
      have : gval "__debug__" = none := by decide +kernel
      rw [this] at hv; exact nn hv
    · simpa using q
  refine wpAny_Name ?_ hd
  rw [loadName_read F.kind (by show env.scope.names.lookup f = _; rw [hN]; exact isGlob_of hf)]
  have n1 : s.heap.Ns env.globals mg := by rw [F.glb]; exact g1.keeps S.keep
  have n2 : s.heap.Ns env.builtins mb := by rw [F.blt]; exact g2.keeps S.keep
  unfold gval at hv
  split at hv
  · rename_i v hb
    cases hv
    obtain ⟨q1, q2⟩ := g3 f _ hb
    exact loadGlobal_builtin n1 q1 n2 q2 h
  · obtain ⟨a, ha, rfl⟩ := Option.map_eq_some_iff.mp hv
    exact loadGlobal_global n1 (g4 f a ha) h

theorem name_call {f : Str} {p pos : Pos} {es : List Expr} {Q : Value → Shared → Prop} (hp : plainArgs es = true)
    (h : wpAny (MM B) A (eval (.Name f p) env) (fun fv s₁ => wpAny (MM B) A (callWith pos fv [] (es.map fun e => (false, eval e env)) []) Q never s₁) never s) :
    wpAny (MM B) A (eval (.Call (.Name f p) es [] pos) env) Q never s := by
  show wpAny _ A (do callWith pos (← eval (.Name f p) env) [] (backTo pos (starEach es env)) (backToKw pos (keywordEach [] env))) Q never s
  rw [backTo_star pos (plainArgs_of hp).1]
  exact wpAny_bind h
theorem any_star (es : List Expr) : (es.map fun e => (false, eval e env)).any (·.1) = false := by rw [List.any_map]; simp
/-- a built-in function or class, called by its name -/
theorem call_bval {f : Str} {p pos : Pos} {es : List Expr} {vs : List AV} {H₁ : AH} {fv : Value} {Q : Value → Shared → Prop} (G : Gd B) (g : GE B n E) (ft : Fit n A) (hN : env.scope.names = N) (hf : isGlob N f = true) (hp : plainArgs es = true)
    (he : evs E N l es H = some (vs, H₁)) (hv : bval f = some fv) (F : Fm B env ρ l s.heap) (S : St B ρ H s.heap)
    (hc : ∀ us s' ρ', Ext ρ noO s ρ' s' → Fm B env ρ' l s'.heap → St B ρ' H₁ s'.heap → VRs B ρ' vs us → wpAny (MM B) A (call fv us) Q never s') :
    wpAny (MM B) A (eval (.Call (.Name f p) es [] pos) env) Q never s := by
  refine name_call hp (glob_ok G F S hN hf (fv := fv) (by unfold gval; rw [hv]) ?_)
  have fin : wpAny (MM B) A (evalArgs fv true (es.map fun e => (false, eval e env)) []) (fun a s₁ => wpAny (MM B) A (call fv ([] ++ a.pos) a.kw) Q never s₁) never s := by
    refine wpAny_mono (evalArgs_ok g ft hN he F S) (fun a s' q => ?_) fun _ _ z => z
    obtain ⟨hk, ρ', x, F', S', r⟩ := q
    rw [hk]
    exact hc a.pos s' ρ' x F' S' r
  have kinds : (∃ id, fv = .builtin id) ∨ ∃ T, fv = .type T := by
    have q := List.all_eq_true.mp (show bTab.all (fun p => match p.2 with | .builtin _ => true | .type _ => true | _ => false) = true from rfl) _ (tab_mem hv)
    cases fv with
    | builtin id => exact .inl ⟨_, rfl⟩
    | type T => exact .inr ⟨_, rfl⟩
    | _ => exact ff q
  rcases kinds with ⟨id, rfl⟩ | ⟨T, rfl⟩
  · exact callWith_builtin (any_star es) fin
  · exact PySem.callWith_type (any_star es) fin
/-- a def of the text, called by its name -/
theorem call_fn {f : Str} {a : Addr} {p pos : Pos} {es : List Expr} {vs : List AV} {H₁ : AH} {Q : Value → Shared → Prop} (G : Gd B) (g : GE B n E) (ft : Fit n A) (hN : env.scope.names = N) (hf : isGlob N f = true) (hp : plainArgs es = true)
    (he : evs E N l es H = some (vs, H₁)) (hb : bval f = none) (ha : faddr f = some a) (hfn : ∃ o fd, B.h₀.get? a = some o ∧ o.data = .func fd) (F : Fm B env ρ l s.heap) (S : St B ρ H s.heap)
    (hc : ∀ us s' ρ', Ext ρ noO s ρ' s' → Fm B env ρ' l s'.heap → St B ρ' H₁ s'.heap → VRs B ρ' vs us → wpAny (MM B) A (call (.ref a) us) Q never s') :
    wpAny (MM B) A (eval (.Call (.Name f p) es [] pos) env) Q never s := by
  obtain ⟨o, fd, ho, hd⟩ := hfn
  refine name_call hp (glob_ok G F S hN hf (fv := .ref a) (by unfold gval; rw [hb, ha]; rfl) ?_)
  refine callWith_function (o := o) (fd := fd) (wpAny_mono (evalArgs_ok g ft hN he F S) (fun a' s' q => ?_) fun _ _ z => z)
  obtain ⟨hk, ρ', x, F', S', r⟩ := q
  rw [hk]
  exact ⟨⟨S'.keep a o ho, hd⟩, hc a'.pos s' ρ' x F' S' r⟩

theorem Iter.one {tg : Expr} {items : List (List AV)} {gd : AH → Bool} {s₀ s₂ : Shared} {ρ₁ : List Addr} {I : Addr} {P : List Addr → Nat → Heap → Prop}
    (W : ∀ env', IW B A env' tg (.ref I) items gd (· = I) (fun _ => False) (fun ρ i s => Off B env' ρ (· = I) ∧ P ρ i s.heap)) (h0 : s₀.heap.get? I = none) (h2 : ∃ o, s₂.heap.get? I = some o) (h3 : I ∉ ρ₁) (hP : P ρ₁ 0 s₂.heap) :
    Iter B A tg items gd s₀ ρ₁ s₂ (.ref I) := IterO.up
  ⟨(· = I), fun _ => False, fun a o e q => (by have q' : a = I := q; rw [q', h0] at e; exact nn e), fun a q => (by have q' : a = I := q; rw [q']; exact h2), fun a hm q => h3 ((show a = I from q) ▸ hm), fun _ _ _ q => q,
    fun env' off => ⟨_, W env', off, hP⟩⟩
/-- what holds where a loop starts -/
noncomputable def LP (B : Bs) (A : Around) (env : Env) (l : AL) (ρ : List Addr) (s : Shared) (tg : Expr) (vs : List (List AV)) (gd : AH → Bool) (H₁ : AH) : Value → Shared → Prop := fun itV s₂ =>
  ∃ ρ₁, Ext ρ noO s ρ₁ s₂ ∧ Fm B env ρ₁ l s₂.heap ∧ St B ρ₁ H₁ s₂.heap ∧ Iter B A tg vs gd s ρ₁ s₂ itV
theorem LP.pushed {tg : Expr} {vs : List (List AV)} {gd : AH → Bool} {H₁ : AH} {s₁ : Shared} {ρ₁ : List Addr} {o : Obj} {P : List Addr → Nat → Heap → Prop} (x1 : Ext ρ noO s ρ₁ s₁) (F1 : Fm B env ρ₁ l s₁.heap) (S1 : St B ρ₁ H₁ s₁.heap)
    (W : ∀ env', IW B A env' tg (.ref s₁.heap.objs.size) vs gd (· = s₁.heap.objs.size) (fun _ => False) (fun ρ i s => Off B env' ρ (· = s₁.heap.objs.size) ∧ P ρ i s.heap)) (hP : P ρ₁ 0 (s₁.heap.push o)) (hf : o.isFreed = false := by rfl) :
    LP B A env l ρ s tg vs gd H₁ (.ref s₁.heap.objs.size) { s₁ with heap := s₁.heap.push o } := by
  have hk : ∀ b o', s₁.heap.get? b = some o' → (s₁.heap.push o).get? b = some o' := fun b o' e => Heap.get?_push_of_some _ e
  have x2 : Ext ρ₁ noO s₁ ρ₁ { s₁ with heap := s₁.heap.push o } := Ext.keeps (tk := s₁.toks) hk
  have new1 : s₁.heap.get? s₁.heap.objs.size = none := by
    cases e : s₁.heap.get? s₁.heap.objs.size with
    | none => rfl
    | some o' => exact absurd (Heap.lt_size e) (Nat.lt_irrefl _)
  refine ⟨ρ₁, x1.trans x2, F1.move x2, S1.keeps hk, Iter.one W ?_ ⟨o, Heap.get?_push_size _ hf⟩ (fun hm => ?_) hP⟩
  · cases e : s.heap.get? s₁.heap.objs.size with
    | none => rfl
    | some o' => obtain ⟨o'', e'⟩ := x1.alive _ _ e; rw [new1] at e'; exact nn e'
  · obtain ⟨o', e⟩ := S1.aliveAt hm
    rw [new1] at e; exact nn e

theorem range_size (a b : Int) : Builtin.Range.rangeSize a b 1 = ((b - a).toNat : Int) := by
  unfold Builtin.Range.rangeSize
  simp only [show (1 : Int) > 0 by decide, if_true, Int.ediv_one]
  split <;> omega
theorem range_iter {tg : Expr} {a b : Int} {t u v : Tok} {H₁ : AH} {s₁ : Shared} {ρ₁ : List Addr} {r : Addr} (ft : Fit n A) (ht : soleTarget tg = true) (x1 : Ext ρ noO s ρ₁ s₁) (F1 : Fm B env ρ₁ l s₁.heap) (S1 : St B ρ₁ H₁ s₁.heap)
    (hr : IsRange s₁.heap r a b 1 t u v) (ha : small a = true) (hb : small b = true) : wpAny (MM B) A (pyIter (.ref r)) (LP B A env l ρ s tg (rangeL a b) (fun _ => true) H₁) never s₁ := by
  have h1 := small_of ha
  have h2 := small_of hb
  refine wpAny_pyIter_range hr ?_ (LP.pushed (P := fun _ i h => (i : Int) ≤ (b - a).toNat ∧ IsRangeIter h s₁.heap.objs.size (a + i) (((b - a).toNat : Int) - i) 1) x1 F1 S1 (fun env' => iw_range ft.handled ht) ⟨?_, ?_⟩)
  · unfold Builtin.Range.small
    rw [range_size]
    simp only [Builtin.Range.rangeFitsLong, Bool.and_eq_true, decide_eq_true_eq, Bool.or_eq_true, beq_iff_eq, show (1 : Int) > 0 by decide, if_true]
    omega
  · omega
  · have : (s₁.heap.push { cls := .type "range_iterator", data := .fields #[rawInt a, rawInt (Builtin.Range.rangeSize a b 1), rawInt 1] }).get? s₁.heap.objs.size = some _ := Heap.get?_push_size _ rfl
    rw [range_size] at this
    show (s₁.heap.push _).get? _ = some { cls := .type "range_iterator", dict := none, data := .fields #[rawInt (a + ((0 : Nat) : Int)), rawInt (((b - a).toNat : Int) - ((0 : Nat) : Int)), rawInt 1], slots := #[] }
    rw [range_size]
    simpa using this

theorem range_pushed {tg : Expr} {a b : Int} {t u v : Tok} {tk : Nat} {H₁ : AH} {s₁ : Shared} {ρ₁ : List Addr} (ft : Fit n A) (ht : soleTarget tg = true) (x1 : Ext ρ noO s ρ₁ s₁) (F1 : Fm B env ρ₁ l s₁.heap) (S1 : St B ρ₁ H₁ s₁.heap) (ha : small a = true) (hb : small b = true) :
    wpAny (MM B) A (pyIter (.ref s₁.heap.objs.size)) (LP B A env l ρ s tg (rangeL a b) (fun _ => true) H₁) never { s₁ with heap := s₁.heap.push { cls := .type "range", data := .fields #[.int a t, .int b u, .int 1 v] }, toks := tk } := by
  have hk : ∀ b' o', s₁.heap.get? b' = some o' → (s₁.heap.push { cls := .type "range", data := .fields #[.int a t, .int b u, .int 1 v] }).get? b' = some o' := fun b' o' e => Heap.get?_push_of_some _ e
  have x2 : Ext ρ₁ noO s₁ ρ₁ { s₁ with heap := s₁.heap.push { cls := .type "range", data := .fields #[.int a t, .int b u, .int 1 v] }, toks := tk } := Ext.keeps hk
  exact range_iter ft ht (x1.trans x2) (F1.move x2) (S1.keeps hk) (Heap.get?_push_size _ rfl) ha hb
theorem zip_iter {tg : Expr} {j k : Nat} {x y : List AV} {a1 a2 : Addr} {H₁ : AH} {s₁ : Shared} {ρ₁ : List Addr} (ft : Fit n A) (ht : isPairTarget tg = true) (x1 : Ext ρ noO s ρ₁ s₁) (F1 : Fm B env ρ₁ l s₁.heap) (S1 : St B ρ₁ H₁ s₁.heap)
    (hx : listAt H₁ j = some x) (hy : listAt H₁ k = some y) (h1 : ρ₁[j]? = some a1) (h2 : ρ₁[k]? = some a2) :
    wpAny (MM B) A (call (.type "zip") [.ref a1, .ref a2]) (fun v s₂ => wpAny (MM B) A (pyIter v) (LP B A env l ρ s tg (zipL x y) (fun h => decide (h[j]? = some (.list x)) && decide (h[k]? = some (.list y))) H₁) never s₂) never s₁ := by
  refine hide fun hG hF => ?_
  obtain ⟨vs, n1, g1, r1⟩ := list_at S1 hx h1
  obtain ⟨ws, n2, g2, r2⟩ := list_at S1 hy h2
  refine hF ?_
  clear hF hG
  refine call_zip_2 (xs := vs.toArray) (ys := ws.toArray) ⟨_, g1, rfl, n1, rfl⟩ ⟨_, g2, rfl, n2, rfl⟩ fun h' hz hTI hTO hi1 hi2 hsz hk => ?_
  refine wpAny_pyIter_zip hz ?_
  have x2 : Ext ρ₁ noO s₁ ρ₁ { s₁ with heap := h' } := Ext.keeps (tk := s₁.toks) hk
  have l1 := Heap.lt_size g1
  have l2 := Heap.lt_size g2
  have new1 : ∀ c, s₁.heap.objs.size ≤ c → s₁.heap.get? c = none := fun c hc => by
    cases e : s₁.heap.get? c with
    | none => rfl
    | some o' => exact absurd (Heap.lt_size e) (Nat.not_lt.mpr hc)
  generalize hS : s₁.heap.objs.size = Z at *
  have big : ∀ c, (c = Z + 4 ∨ c = Z + 2 ∨ c = Z + 3 ∨ c = Z ∨ c = Z + 1) → Z ≤ c := fun c hc => by
    rcases hc with q | q | q | q | q <;> rw [q] <;> first | exact Nat.le_refl _ | exact Nat.le_add_right ..
  refine hide fun hG hF => ?_
  obtain ⟨o1, go1, _⟩ := id hi1
  obtain ⟨o2, go2, _⟩ := id hi2
  refine hF ?_
  clear hF hG
  refine ⟨ρ₁, x1.trans x2, F1.move x2, S1.keeps hk, IterO.up ⟨fun c => c = Z + 4 ∨ c = Z + 2 ∨ c = Z + 3 ∨ c = Z ∨ c = Z + 1, fun _ => False, fun c o e hc => ?_, fun c hc => ?_, fun c hm hc => ?_, fun _ _ _ q => q, fun env' off => ⟨_, iw_zip ft.handled ht, off, a1, a2, h1, h2, ?_, hz, hTI, ⟨_, _, hTO⟩, hi1, hi2⟩⟩⟩
  · obtain ⟨o', e'⟩ := x1.alive c o e
    rw [new1 c (big c hc)] at e'; exact nn e'
  · rcases hc with rfl | rfl | rfl | rfl | rfl
    · exact ⟨_, hz⟩
    · exact ⟨_, hTI⟩
    · exact ⟨_, hTO⟩
    · exact ⟨_, go1⟩
    · exact ⟨_, go2⟩
  · obtain ⟨o', e'⟩ := S1.aliveAt hm
    rw [new1 c (big c hc)] at e'; exact nn e'
  · exact zipApart_new l1 l2

/-- the generator of the text: what a call of it, and iter of that, give -/
noncomputable def GI (B : Bs) (n : Nat) : Prop := ∀ (A : Around) (env : Env) (l : AL) (ρ : List Addr) (H : AH) (s : Shared) (tg : Expr) (x : Str) (t : Tok), Fit n A → isPairTarget tg = true → Fm B env ρ l s.heap → St B ρ H s.heap →
  wpAny (MM B) A (call (.ref 101) [.str x t]) (fun v s₁ => wpAny (MM B) A (pyIter v) (LP B A env l ρ s tg (unitsFrom 0 false x.cps.toList) (fun _ => true) H) never s₁) never s

theorem LP.after {tg : Expr} {vs : List (List AV)} {gd : AH → Bool} {H₁ : AH} {s₁ s₂ : Shared} {ρ₁ : List Addr} {v : Value} (x1 : Ext ρ noO s ρ₁ s₁) (h : LP B A env l ρ₁ s₁ tg vs gd H₁ v s₂) : LP B A env l ρ s tg vs gd H₁ v s₂ := by
  obtain ⟨ρ₂, x2, F2, S2, wr, w1, w2, w3, w5⟩ := h
  have hg : ∀ (i : Nat) x, s.gens[i]? = some x → ∃ y, s₁.gens[i]? = some y := fun i x e => ⟨x, x1.gens i x e⟩
  refine ⟨ρ₂, x1.trans x2, F2, S2, wr, fun a o e hw => ?_, w2, w3, fun env' off => let ⟨J, W, j⟩ := w5 env' off; ⟨J, W.mono x1.alive hg, j⟩⟩
  obtain ⟨o', e'⟩ := x1.alive a o e
  exact w1 a o' e' hw

/-- what a loop over it says: the value, then iter of that -/
noncomputable def IP (B : Bs) (A : Around) (env : Env) (l : AL) (ρ : List Addr) (s : Shared) (tg : Expr) (vs : List (List AV)) (gd : AH → Bool) (H₁ : AH) (x : Value) (s₁ : Shared) : Prop := wpAny (MM B) A (pyIter x) (LP B A env l ρ s tg vs gd H₁) never s₁
theorem rangeV_ok {tg : Expr} {ws : List AV} {us : List Value} {vs : List (List AV)} {gd : AH → Bool} {H₁ : AH} (ft : Fit n A) (ht : soleTarget tg = true) (h : rangeV ws H = some (vs, gd, H₁)) {s₁ : Shared} {ρ₁ : List Addr} (x1 : Ext ρ noO s ρ₁ s₁) (F1 : Fm B env ρ₁ l s₁.heap) (S1 : St B ρ₁ H s₁.heap)
    (r : VRs B ρ₁ ws us) : wpAny (MM B) A (call (.type "range") us) (IP B A env l ρ s tg vs gd H₁) never s₁ := by
  cases r with
  | nil => exact nn h
  | cons ra r =>
    cases r with
    | nil =>
      obtain ⟨b, rfl, h1⟩ := onInt_inv h
      obtain ⟨hs, h2⟩ := if_inv h1
      refine res3 h2 ?_
      obtain ⟨t, rfl⟩ := ra.intI
      exact call_range_1 (range_pushed ft ht x1 F1 S1 (small_lit (by decide) (by decide)) hs)
    | cons rb r =>
      obtain ⟨q, h0⟩ := if_inv h
      obtain rfl := nil_of q
      refine VRs.nilE r ?_
      refine hide fun hG hF => ?_
      obtain ⟨a, rfl, h1⟩ := onInt_inv h0
      obtain ⟨b, rfl, h2⟩ := onInt_inv h1
      obtain ⟨hs, h3⟩ := if_inv h2
      refine hF ?_
      clear hF hG
      rw [Bool.and_eq_true] at hs
      refine res3 h3 ?_
      obtain ⟨t, rfl⟩ := ra.intI
      obtain ⟨t', rfl⟩ := rb.intI
      exact call_range_2 (range_pushed ft ht x1 F1 S1 hs.1 hs.2)
theorem zipV_ok {tg : Expr} {ws : List AV} {us : List Value} {vs : List (List AV)} {gd : AH → Bool} {H₁ : AH} (ft : Fit n A) (ht : isPairTarget tg = true) (h : zipV ws H = some (vs, gd, H₁)) {s₁ : Shared} {ρ₁ : List Addr} (x1 : Ext ρ noO s ρ₁ s₁) (F1 : Fm B env ρ₁ l s₁.heap) (S1 : St B ρ₁ H s₁.heap)
    (r : VRs B ρ₁ ws us) : wpAny (MM B) A (call (.type "zip") us) (IP B A env l ρ s tg vs gd H₁) never s₁ := by
  obtain ⟨a, b, rfl, h1⟩ := onTwo_inv h
  obtain ⟨j, rfl, h2⟩ := onRef_inv h1
  obtain ⟨k, rfl, h3⟩ := onRef_inv h2
  obtain ⟨x, hx, h4⟩ := bind_inv h3
  obtain ⟨y, hy, h5⟩ := bind_inv h4
  refine res3 h5 ?_
  obtain ⟨u, w, rfl, ru, rw'⟩ := r.two
  obtain ⟨a1, rfl, h1⟩ := ru.refI
  obtain ⟨a2, rfl, h2⟩ := rw'.refI
  exact zip_iter ft ht x1 F1 S1 hx hy h1 h2
theorem unitsV_ok {tg : Expr} {ws : List AV} {us : List Value} {vs : List (List AV)} {gd : AH → Bool} {H₁ : AH} (gi : GI B n) (ft : Fit n A) (ht : isPairTarget tg = true) (h : unitsV ws H = some (vs, gd, H₁)) {s₁ : Shared} {ρ₁ : List Addr} (x1 : Ext ρ noO s ρ₁ s₁) (F1 : Fm B env ρ₁ l s₁.heap) (S1 : St B ρ₁ H s₁.heap)
    (r : VRs B ρ₁ ws us) : wpAny (MM B) A (call (.ref 101) us) (IP B A env l ρ s tg vs gd H₁) never s₁ := by
  obtain ⟨a, rfl, h1⟩ := onOne_inv h
  obtain ⟨x, rfl, h2⟩ := onStr_inv h1
  refine res3 h2 ?_
  obtain ⟨u, rfl, ru⟩ := r.one
  obtain ⟨t, rfl⟩ := ru.strI
  exact wpAny_mono (gi A env l ρ₁ _ s₁ tg x t ft ht F1 S1) (fun v s₂ q => wpAny_mono q (fun w s₃ q => q.after x1) fun _ _ z => z) fun _ _ z => z
theorem callItems_ok {tg : Expr} {f : Str} {p pos : Pos} {es : List Expr} {vs : List (List AV)} {gd : AH → Bool} {H₁ : AH} (G : Gd B) (g : GE B n E) (gi : E.gen = true → GI B n) (ft : Fit n A) (hN : env.scope.names = N) (h : callItems E N l H tg f es = some (vs, gd, H₁)) (F : Fm B env ρ l s.heap) (S : St B ρ H s.heap) :
    wpAny (MM B) A (eval (.Call (.Name f p) es [] pos) env) (IP B A env l ρ s tg vs gd H₁) never s := by
  refine hide fun hG hF => ?_
  obtain ⟨hf, h0⟩ := if_inv h
  obtain ⟨ws, H', he, h1⟩ := obind_inv h0
  refine hF ?_
  clear hF hG
  clear h h0
  rw [Bool.and_eq_true] at hf
  by_cases c1 : (decide (f = "range") && soleTarget tg) = true
  · rw [if_pos c1] at h1
    rw [Bool.and_eq_true, decide_eq_true_eq] at c1
    obtain ⟨rfl, ht⟩ := c1
    exact call_bval G g ft hN hf.1 hf.2 he (fv := .type "range") (by decide +kernel) F S fun us s' ρ' x' F' S' r => rangeV_ok ft ht h1 x' F' S' r
  rw [if_neg c1] at h1
  by_cases c2 : (decide (f = "zip") && isPairTarget tg) = true
  · rw [if_pos c2] at h1
    rw [Bool.and_eq_true, decide_eq_true_eq] at c2
    obtain ⟨rfl, ht⟩ := c2
    exact call_bval G g ft hN hf.1 hf.2 he (fv := .type "zip") (by decide +kernel) F S fun us s' ρ' x' F' S' r => zipV_ok ft ht h1 x' F' S' r
  rw [if_neg c2] at h1
  obtain ⟨c3, h2⟩ := if_inv h1
  clear h1
  rw [Bool.and_eq_true, Bool.and_eq_true, decide_eq_true_eq] at c3
  obtain ⟨⟨rfl, ht⟩, hg⟩ := c3
  exact call_fn (a := 101) G g ft hN hf.1 hf.2 he (by decide +kernel) (by decide +kernel) (let ⟨o, fd, _, _, _, g1, g2, _⟩ := G.gen; ⟨o, fd, g1, g2⟩) F S fun us s' ρ' x' F' S' r => unitsV_ok (gi hg) ft ht h2 x' F' S' r
theorem itemsOf_ok {tg : Expr} {w : AV} {u : Value} {vs : List (List AV)} {gd : AH → Bool} {H₁ : AH} (G : Gd B) (ft : Fit n A) (ht : soleTarget tg = true) (h : itemsOf w H = some (vs, gd, H₁)) {s₁ : Shared} {ρ₁ : List Addr} (x1 : Ext ρ noO s ρ₁ s₁) (F1 : Fm B env ρ₁ l s₁.heap) (S1 : St B ρ₁ H s₁.heap)
    (r1 : VR B ρ₁ w u) : IP B A env l ρ s tg vs gd H₁ u s₁ := by
  cases r1 with
  | str x t =>
    refine res3 h ?_
    cases ha : x.cps.all (· < 128)
    · exact wpAny_pyIter_wide ha (LP.pushed (P := fun _ i h => h.IsStrIter s₁.heap.objs.size "str_iterator" x t i) x1 F1 S1 (fun env' => iw_wide ft.handled ht) ⟨_, Heap.get?_push_size _ rfl, rfl, rfl⟩)
    · exact wpAny_pyIter_ascii ha (LP.pushed (P := fun _ i h => h.IsStrIter s₁.heap.objs.size "str_ascii_iterator" x t i) x1 F1 S1 (fun env' => iw_ascii ft.handled ht) ⟨_, Heap.get?_push_size _ rfl, rfl, rfl⟩)
  | @ref k a ha =>
    unfold itemsOf at h
    dsimp only at h
    cases hx : H[k]? with
    | none => rw [hx] at h; exact nn h
    | some o =>
      rw [hx] at h
      cases o with
      | list x =>
        refine res3 h ?_
        obtain ⟨o, go, vs', m, rfl, r⟩ := S1.at_ hx ha
        exact wpAny_pyIter_list (items := vs'.toArray) ⟨_, go, rfl, m, rfl⟩ (LP.pushed (P := fun ρ i h => ∃ a, ρ[k]? = some a ∧ h.IsListIter s₁.heap.objs.size a i) x1 F1 S1 (fun env' => iw_list ft.handled ht) ⟨a, ha, _, Heap.get?_push_size _ rfl, rfl, rfl⟩)
      | dict x =>
        refine res3 h ?_
        refine hide fun hG hF => ?_
        obtain ⟨hsys, kvs, hd, hk, _⟩ := dict_at G S1 hx ha
        refine hF ?_
        clear hF hG
        have hl : kvs.length = x.length := by simpa using congrArg List.length hk
        refine wpAny_pyIter_dict hsys hd (LP.pushed (P := fun ρ i h => ∃ a, ρ[k]? = some a ∧ h.IsKeyIter s₁.heap.objs.size a i x.length x.length) x1 F1 S1 (fun env' => iw_dict G ft.handled ht) ⟨a, ha, _, Heap.get?_push_size _ rfl, rfl, ?_⟩)
        rw [hl]; rfl
      | tup _ => exact nn h
      | inst _ => exact nn h
      | attrs _ => exact nn h
  | int _ _ => exact nn h
  | none => exact nn h
  | bool _ => exact nn h
  | flt _ _ => exact nn h
  | scr => exact nn h
theorem no_fold {it : Expr} (h : noSet it = true) (x : Value) : foldedSetIterable it env x = pure x := by
  revert h
  cases it <;> first | exact fun _ => rfl | exact ff
theorem items_ok {tg it : Expr} {vs : List (List AV)} {gd : AH → Bool} {H₁ : AH} (G : Gd B) (g : GE B n E) (gi : E.gen = true → GI B n) (ft : Fit n A) (hN : env.scope.names = N) (h : items E N l H tg it = some (vs, gd, H₁)) (F : Fm B env ρ l s.heap) (S : St B ρ H s.heap) :
    (∀ x, foldedSetIterable it env x = pure x) ∧ wpAny (MM B) A (eval it env) (fun x s₁ => wpAny (MM B) A (pyIter x) (LP B A env l ρ s tg vs gd H₁) never s₁) never s := by
  unfold items at h
  cases hc : nameCall it with
  | some q =>
    obtain ⟨f, es⟩ := q
    rw [hc] at h
    obtain ⟨p, q, rfl⟩ := nameCall_inv hc
    exact ⟨fun _ => rfl, callItems_ok G g gi ft hN h F S⟩
  | none =>
    rw [hc] at h
    refine hide fun hG hF => ?_
    obtain ⟨hs, h⟩ := if_inv h
    obtain ⟨w, H', he, h⟩ := obind_inv h
    refine hF ?_
    clear hF hG
    rw [Bool.and_eq_true] at hs
    refine ⟨no_fold hs.1, wpAny_mono (g _ N l H _ _ he A env ρ s ft hN F S) (fun u s₁ q => ?_) fun _ _ z => z⟩
    obtain ⟨ρ₁, x1, F1, S1, r1⟩ := q
    exact itemsOf_ok G ft hs.2 h x1 F1 S1 r1
end
end Mine
end
section
/-! Expressions. -/
namespace Mine
open PySem PySem.Spec PySem.Calls PyProof.Rows
set_option maxRecDepth 100000

/-- what is asked of instances -/
structure IO (B : Bs) (n : Nat) (E : Evs) : Prop where
  attr : ∀ (A : Around) (ρ : List Addr) (H : AH) (s : Shared) (v w : AV) (f : Str) (u : Value), Fit n A → St B ρ H s.heap → isField f = true → attrOf v f H = some w → VR B ρ v u → wpAny (MM B) A (getAttr u f true) (CP B ρ s w H) never s
  set : ∀ (A : Around) (ρ : List Addr) (H : AH) (s : Shared) (k d : Nat) (fs : List (Str × AV)) (a : Addr) (v : AV) (u : Value) (f : Str), Fit n A → St B ρ H s.heap → isField f = true → fs.length < 100 → H[k]? = some (.inst d) → H[d]? = some (.attrs fs) → ρ[k]? = some a → VR B ρ v u →
    wpAny (MM B) A (PySem.setAttr (.ref a) f u) (fun _ s' => Ext ρ noO s ρ s' ∧ St B ρ (H.set d (.attrs (Mine.setAttr f v fs))) s'.heap) never s
  clsS : ∀ (A : Around) (ρ : List Addr) (H : AH) (s : Shared), Fit n A → St B ρ H s.heap → wpAny (MM B) A (getAttr (.ref 83) "S" true) (CP B ρ s (.str " ") H) never s
  clsT : ∀ (A : Around) (ρ : List Addr) (H : AH) (s : Shared), Fit n A → St B ρ H s.heap → wpAny (MM B) A (getAttr (.ref 83) "T" true) (CP B ρ s (.str "\t") H) never s
  meth : ∀ (A : Around) (ρ : List Addr) (H : AH) (s : Shared) (k d : Nat) (a : Addr) (f : Str) (fa : Addr) (pl : Sem Bool), Fit n A → St B ρ H s.heap → H[k]? = some (.inst d) → isAttrs H d = true → ρ[k]? = some a → maddr f = some fa → wpAny (MM B) A (getMethod (.ref a) f pl) (fun fx s' => fx = (.ref fa, [.ref a]) ∧ s' = s) never s
  fnm : ∀ f fa, maddr f = some fa → ∃ o fd, B.h₀.get? fa = some o ∧ o.data = .func fd
  known : ∀ f as H r, E.meth f as H = some r → ∃ fa, maddr f = some fa
  knownC : ∀ f as H r, E.call f as H = some r → bval f = none ∧ ∃ fa, faddr f = some fa ∧ ∃ o fd, B.h₀.get? fa = some o ∧ o.data = .func fd
  make : ∀ (A : Around) (env : Env) (pos : Pos) (l : AL) (N : Names) (ρ : List Addr) (H H₁ H₂ : AH) (s : Shared) (es : List Expr) (v : AV), Fit (n + 1) A → env.scope.names = N → Fm B env ρ l s.heap → St B ρ H s.heap → evs E N l es H = some ([v], H₁) →
    E.meth "__init__" [.ref (H₁.length + 1), v] (H₁ ++ [.attrs [], .inst H₁.length]) = some (.none, H₂) →
    wpAny (MM B) A (callWith pos (.ref 83) [] (es.map fun e => (false, eval e env)) []) (EP B env l ρ s (.ref (H₁.length + 1)) H₂) never s

section
variable {B : Bs} {n : Nat} {A : Around} {env : Env} {E : Evs} {N : Names} {l : AL} {ρ : List Addr} {s : Shared} {H H' : AH} {v : AV}
theorem part_ok {e : Option Expr} {x : Option AV} {H₁ : AH} (g : GE B n E) (ft : Fit n A) (hN : env.scope.names = N) (h : slicePart E N l e H = some (x, H₁)) (F : Fm B env ρ l s.heap) (S : St B ρ H s.heap) :
    wpAny (MM B) A (evalPart e env) (fun u s' => ∃ ρ', Ext ρ noO s ρ' s' ∧ Fm B env ρ' l s'.heap ∧ St B ρ' H₁ s'.heap ∧ PR B ρ' x u) never s := by
  cases e with
  | none =>
    cases h
    rw [evalPart_none]
    exact wpAny_pure ⟨ρ, .refl, F, S, rfl⟩
  | some e =>
    obtain ⟨w, H', he, h⟩ := obind_inv h
    cases h
    rw [evalPart_some]
    exact wpAny_mono (g e N l H _ H₁ he A env ρ s ft hN F S) (fun _ _ ⟨ρ', x, F', S', r⟩ => ⟨ρ', x, F', S', r⟩) fun _ _ z => z
theorem PR.mono {ρ ρ' : List Addr} (h : ρ <+: ρ') {o : Option AV} {u : Value} (r : PR B ρ o u) : PR B ρ' o u := by
  cases o with
  | none => exact r
  | some a => exact VR.mono h r

theorem sameKind_list {k : Nat} {H₁ H₂ : AH} {x : List AV} (h : sameKind (.ref k) H₁ H₂ = true) (hx : H₂[k]? = some (.list x)) : ∃ y, H₁[k]? = some (.list y) := by
  have h : sameO H₁ H₁[k]? H₂[k]? = true := h
  rw [hx] at h
  cases q : H₁[k]? with
  | none => rw [q] at h; exact ff h
  | some o => cases o <;> first | exact ⟨_, rfl⟩ | (rw [q] at h; exact ff h)
theorem sameKind_dict {k : Nat} {H₁ H₂ : AH} {x : List (Int × Int)} (h : sameKind (.ref k) H₁ H₂ = true) (hx : H₂[k]? = some (.dict x)) : ∃ y, H₁[k]? = some (.dict y) := by
  have h : sameO H₁ H₁[k]? H₂[k]? = true := h
  rw [hx] at h
  cases q : H₁[k]? with
  | none => rw [q] at h; exact ff h
  | some o => cases o <;> first | exact ⟨_, rfl⟩ | (rw [q] at h; exact ff h)
theorem sameKind_inst {k d : Nat} {H₁ H₂ : AH} (h : sameKind (.ref k) H₁ H₂ = true) (hx : H₂[k]? = some (.inst d)) : ∃ y, H₁[k]? = some (.inst y) ∧ isAttrs H₁ y = true := by
  have h : sameO H₁ H₁[k]? H₂[k]? = true := h
  rw [hx] at h
  cases q : H₁[k]? with
  | none => rw [q] at h; exact ff h
  | some o =>
    rw [q] at h
    cases o with
    | inst y => exact ⟨y, rfl, (Bool.and_eq_true_iff.mp h).2⟩
    | _ => exact ff h
theorem bval_of {f : Str} (h : isBuiltin f = true) : ∃ fv, bval f = some fv := by
  unfold isBuiltin at h
  simp only [List.any_cons, List.any_nil, Bool.or_false, Bool.or_eq_true, decide_eq_true_eq] at h
  rcases h with rfl | rfl | rfl | rfl | rfl | rfl
  · exact ⟨.builtin "len", by decide +kernel⟩
  · exact ⟨.builtin "max", by decide +kernel⟩
  · exact ⟨.builtin "min", by decide +kernel⟩
  · exact ⟨.type "int", by decide +kernel⟩
  · exact ⟨.builtin "sum", by decide +kernel⟩
  · exact ⟨.type "tuple", by decide +kernel⟩
theorem mjoin_ok {sep : Str} {t : Tok} {es : List Expr} {vs : List AV} {H₁ H₂ : AH} {p : Pos} {pl : Sem Bool} (g : GE B n E) (ft : Fit n A) (hN : env.scope.names = N) (he : evs E N l es H₁ = some (vs, H₂)) (h0 : sep.length = 0)
    (h : (onOne vs fun a => onRef a fun k => ((listAt H₂ k).bind strs?).bind fun xs => if sizeOk (sumLen xs) = true then some (AV.str (joinS xs), H₂) else none) = some (v, H')) (F : Fm B env ρ l s.heap) (S : St B ρ H₁ s.heap) :
    wpAny (MM B) A (getMethod (.str sep t) "join" pl) (fun fx s₂ => wpAny (MM B) A (callWith p fx.1 fx.2 (es.map fun e => (false, eval e env)) []) (EP B env l ρ s v H') never s₂) never s := by
  obtain ⟨a, rfl, h⟩ := onOne_inv h
  obtain ⟨k, rfl, h⟩ := onRef_inv h
  obtain ⟨xs, hx, h⟩ := bind_inv h
  obtain ⟨hs, h⟩ := if_inv h
  refine res2 h ?_
  obtain ⟨x, q1, q2⟩ := bind_inv hx
  refine getMethod_builtin (typeIs_str s sep t) PySem.F.plainAttrs_str PySem.F.slot_str_join PySem.F.type_str_join (fun a e => by cases e) ?_
  refine meth_builtin g ft hN he F S fun us s' ρ' x' F' S' rr => ?_
  obtain ⟨u, rfl, ru⟩ := rr.one
  obtain ⟨a, rfl, ha⟩ := ru.refI
  exact wpAny_mono (join_ok S' q1 q2 ha hs h0) (fun z s₃ q => (EP.of F' q).after x') fun _ _ z => z
theorem mappend_ok {k : Nat} {a : Addr} {x : List AV} {es : List Expr} {vs : List AV} {H₁ H₂ : AH} {p : Pos} {pl : Sem Bool} (g : GE B n E) (ft : Fit n A) (hN : env.scope.names = N) (he : evs E N l es H₁ = some (vs, H₂)) (hk : sameKind (.ref k) H₁ H₂ = true) (hx : H₂[k]? = some (.list x))
    (h : (onOne vs fun v => if sizeOk (x.length + 1) = true then some (AV.none, H₂.set k (.list (x ++ [v]))) else none) = some (v, H')) (F : Fm B env ρ l s.heap) (S : St B ρ H₁ s.heap) (ha : ρ[k]? = some a) :
    wpAny (MM B) A (getMethod (.ref a) "append" pl) (fun fx s₂ => wpAny (MM B) A (callWith p fx.1 fx.2 (es.map fun e => (false, eval e env)) []) (EP B env l ρ s v H') never s₂) never s := by
  obtain ⟨y, rfl, h⟩ := onOne_inv h
  obtain ⟨hs, h⟩ := if_inv h
  refine res2 h ?_
  refine hide fun hG hF => ?_
  obtain ⟨x', hx'⟩ := sameKind_list hk hx
  obtain ⟨o, g1, vs', m, rfl, r1⟩ := S.at_ hx' ha
  refine hF ?_
  clear hF hG
  refine getMethod_builtin (T := "list") ⟨_, g1, rfl⟩ PySem.F.plainAttrs_list PySem.F.slot_list_append PySem.F.type_list_append (fun b e => by cases e; exact ⟨_, g1, rfl⟩) ?_
  refine meth_builtin g ft hN he F S fun us s' ρ' x'' F' S' rr => ?_
  obtain ⟨u, rfl, ru⟩ := rr.one
  exact wpAny_mono (append_ok S' hx (pre_get x''.pre ha) hs ru) (fun z s₃ q => (EP.of F' q).after x'') fun _ _ z => z
theorem mget_ok {k : Nat} {a : Addr} {x : List (Int × Int)} {es : List Expr} {vs : List AV} {H₁ H₂ : AH} {p : Pos} {pl : Sem Bool} (G : Gd B) (g : GE B n E) (ft : Fit n A) (hN : env.scope.names = N) (he : evs E N l es H₁ = some (vs, H₂)) (hk : sameKind (.ref k) H₁ H₂ = true) (hx : H₂[k]? = some (.dict x))
    (h : (onTwo vs fun a b => onInt a fun i => onInt b fun d => some (AV.int ((x.lookup i).getD d), H₂)) = some (v, H')) (F : Fm B env ρ l s.heap) (S : St B ρ H₁ s.heap) (ha : ρ[k]? = some a) :
    wpAny (MM B) A (getMethod (.ref a) "get" pl) (fun fx s₂ => wpAny (MM B) A (callWith p fx.1 fx.2 (es.map fun e => (false, eval e env)) []) (EP B env l ρ s v H') never s₂) never s := by
  obtain ⟨a1, b1, rfl, h⟩ := onTwo_inv h
  obtain ⟨i, rfl, h⟩ := onInt_inv h
  obtain ⟨d, rfl, h⟩ := onInt_inv h
  refine res2 h ?_
  refine hide fun hG hF => ?_
  obtain ⟨x', hx'⟩ := sameKind_dict hk hx
  obtain ⟨o, g1, es', kvs', hcd, _⟩ := S.at_ hx' ha
  refine hF ?_
  clear hF hG
  refine getMethod_builtin (T := "dict") ⟨_, g1, hcd.1⟩ PySem.F.plainAttrs_dict PySem.F.slot_dict_get PySem.F.type_dict_get (fun b e => by cases e; exact ⟨_, g1, hcd.2.1⟩) ?_
  refine meth_builtin g ft hN he F S fun us s' ρ' x'' F' S' rr => ?_
  obtain ⟨u, w, rfl, ru, rw'⟩ := rr.two
  obtain ⟨t, rfl⟩ := ru.intI
  obtain ⟨t', rfl⟩ := rw'.intI
  exact wpAny_mono (get_ok G S' hx (pre_get x''.pre ha)) (fun z s₃ q => (EP.of F' q).after x'') fun _ _ z => z
theorem minst_ok {f : Str} {k d : Nat} {a : Addr} {es : List Expr} {vs : List AV} {H₁ H₂ : AH} {p : Pos} {pl : Sem Bool} (g : Good B n E) (io : IO B n E) (ft : Fit n A) (hN : env.scope.names = N) (he : evs E N l es H₁ = some (vs, H₂)) (hk : sameKind (.ref k) H₁ H₂ = true) (hx : H₂[k]? = some (.inst d))
    (h : E.meth f (.ref k :: vs) H₂ = some (v, H')) (F : Fm B env ρ l s.heap) (S : St B ρ H₁ s.heap) (ha : ρ[k]? = some a) :
    wpAny (MM B) A (getMethod (.ref a) f pl) (fun fx s₂ => wpAny (MM B) A (callWith p fx.1 fx.2 (es.map fun e => (false, eval e env)) []) (EP B env l ρ s v H') never s₂) never s := by
  obtain ⟨fa, hfa⟩ := io.known _ _ _ _ h
  obtain ⟨d', hx', hat⟩ := sameKind_inst hk hx
  refine wpAny_mono (io.meth A ρ H₁ s k d' a f fa pl ft S hx' hat ha hfa) (fun fx s₁ q => ?_) fun _ _ z => z
  refine hide fun hG hF => ?_
  obtain ⟨rfl, rfl⟩ := q
  obtain ⟨o, fd, ho, hd⟩ := io.fnm f fa hfa
  refine hF ?_
  clear hF hG
  refine callWith_function (o := o) (fd := fd) (wpAny_mono (evalArgs_ok g.e ft hN he F S) (fun a' s' q => ?_) fun _ _ z => z)
  obtain ⟨hkw, ρ', x', F', S', rr⟩ := q
  rw [hkw]
  refine ⟨⟨S'.keep fa o ho, hd⟩, ?_⟩
  exact wpAny_mono (call_back (g.m f fa _ _ _ _ h hfa A ρ' s' _ ft S' (.cons (.ref (pre_get x'.pre ha)) rr))) (fun z s₃ q => (EP.of F' q).after x') fun _ _ z => z
theorem method_ok {w : AV} {f : Str} {es : List Expr} {vs : List AV} {H₁ H₂ : AH} {ov : Value} {p : Pos} {pl : Sem Bool} (G : Gd B) (g : Good B n E) (io : IO B n E) (ft : Fit n A) (hN : env.scope.names = N)
    (he : evs E N l es H₁ = some (vs, H₂)) (hk : sameKind w H₁ H₂ = true) (h : method E w f vs H₂ = some (v, H')) (F : Fm B env ρ l s.heap) (S : St B ρ H₁ s.heap) (r : VR B ρ w ov) :
    wpAny (MM B) A (getMethod ov f pl) (fun fx s₂ => wpAny (MM B) A (callWith p fx.1 fx.2 (es.map fun e => (false, eval e env)) []) (EP B env l ρ s v H') never s₂) never s := by
  cases r with
  | str sep t =>
    obtain ⟨⟨rfl, h0⟩, h1⟩ := if_inv h
    exact mjoin_ok g.e ft hN he h0 h1 F S
  | @ref k a ha =>
    unfold method at h
    dsimp only at h
    cases hx : H₂[k]? with
    | none => rw [hx] at h; exact nn h
    | some o =>
      rw [hx] at h
      cases o with
      | list x => obtain ⟨rfl, h1⟩ := if_inv h; exact mappend_ok g.e ft hN he hk hx h1 F S ha
      | dict x => obtain ⟨rfl, h1⟩ := if_inv h; exact mget_ok G g.e ft hN he hk hx h1 F S ha
      | inst d => exact minst_ok g io ft hN he hk hx h F S ha
      | tup _ => exact nn h
      | attrs _ => exact nn h
  | int _ _ => exact nn h
  | none => exact nn h
  | bool _ => exact nn h
  | flt _ _ => exact nn h
  | scr => exact nn h
theorem evs_length : ∀ {es : List Expr} {vs : List AV} {H H' : AH}, evs E N l es H = some (vs, H') → vs.length = es.length
  | [], _, _, _, h => by refine res2 h ?_; rfl
  | e :: r, vs, H, H', h => by
    obtain ⟨w, H₁, h1, h⟩ := obind_inv h
    obtain ⟨ws, H₂, h2, h⟩ := obind_inv h
    refine res2 h ?_
    rw [List.length_cons, List.length_cons, evs_length h2]
theorem const_ok {c : Const} {k : Nat} {p : Pos} (h : evConst c H = some (v, H')) (F : Fm B env ρ l s.heap) (S : St B ρ H s.heap) : wpAny (MM B) A (eval (.Constant c k p) env) (EP B env l ρ s v H') never s := by
  cases c with
  | none => refine res2 h ?_; exact wpAny_Constant_none (EP.of F (CP.same S .none))
  | bool b => refine res2 h ?_; exact wpAny_Constant_bool (EP.of F (CP.same S (.bool _)))
  | int i => refine res2 h ?_; exact wpAny_Constant_int (EP.of F (CP.tok S (.int ..)))
  | float x => refine res2 h ?_; exact AutoFloatOps.wpAny_Constant_float (EP.of F (CP.tok S (.flt ..)))
  | str x => refine res2 h ?_; exact wpAny_Constant_str (EP.of F (CP.tok S (.str ..)))
  | complex _ _ => exact nn h
  | bytes _ => exact nn h
  | ellipsis => exact nn h
theorem two_ok {a b : Expr} {u w : AV} {H₁ H₂ : AH} {Q : Value → Value → Shared → Prop} (g : GE B n E) (ft : Fit n A) (hN : env.scope.names = N) (h1 : E.e a N l H = some (u, H₁)) (h2 : E.e b N l H₁ = some (w, H₂)) (F : Fm B env ρ l s.heap) (S : St B ρ H s.heap)
    (hQ : ∀ x y s' ρ', Ext ρ noO s ρ' s' → Fm B env ρ' l s'.heap → St B ρ' H₂ s'.heap → VR B ρ' u x → VR B ρ' w y → Q x y s') : wpAny (MM B) A (eval a env) (fun x s₁ => wpAny (MM B) A (eval b env) (fun y s₂ => Q x y s₂) never s₁) never s := by
  refine wpAny_mono (g _ N l H _ _ h1 A env ρ s ft hN F S) (fun x s₁ p => ?_) fun _ _ z => z
  obtain ⟨ρ₁, x1, F1, S1, r1⟩ := p
  refine wpAny_mono (g _ N l H₁ _ _ h2 A env ρ₁ s₁ ft hN F1 S1) (fun y s₂ p => ?_) fun _ _ z => z
  obtain ⟨ρ₂, x2, F2, S2, r2⟩ := p
  exact hQ x y s₂ ρ₂ (x1.trans x2) F2 S2 (r1.mono x2.pre) r2
theorem bin_ok {a b : Expr} {op : Operator} {p : Pos} {u w : AV} {H₁ H₂ : AH} (g : GE B n E) (ft : Fit n A) (hN : env.scope.names = N) (h1 : E.e a N l H = some (u, H₁)) (h2 : E.e b N l H₁ = some (w, H₂)) (h : binop op u w H₂ = some (v, H')) (F : Fm B env ρ l s.heap) (S : St B ρ H s.heap) :
    wpAny (MM B) A (eval (.BinOp a op b p) env) (EP B env l ρ s v H') never s :=
  wpAny_BinOp (two_ok g ft hN h1 h2 F S fun x y s' ρ' x' F' S' r1 r2 => wpAny_mono (binop_ok ft h S' r1 r2) (fun z s₃ p => (EP.of F' p).after x') fun _ _ z => z)
theorem neg_ok {a : Expr} {p : Pos} {i : Int} {H₁ : AH} (g : GE B n E) (ft : Fit n A) (hN : env.scope.names = N) (h1 : E.e a N l H = some (.int i, H₁)) (F : Fm B env ρ l s.heap) (S : St B ρ H s.heap) :
    wpAny (MM B) A (eval (.UnaryOp .USub a p) env) (EP B env l ρ s (.int (-i)) H₁) never s := by
  refine wpAny_UnaryOp (wpAny_mono (g _ N l H _ _ h1 A env ρ s ft hN F S) (fun x s₁ p => ?_) fun _ _ z => z)
  obtain ⟨ρ₁, x1, F1, S1, r1⟩ := p
  obtain ⟨t, rfl⟩ := r1.intI
  exact PySem.P.neg_int ((EP.of F1 (CP.tok S1 (.int ..))).after x1)
theorem ifexp_ok {t a b : Expr} {p : Pos} {q : Bool} {H₁ : AH} (G : Gd B) (g : GE B n E) (ft : Fit n A) (hN : env.scope.names = N) (h1 : test E N l t H = some (q, H₁)) (h : (if q = true then E.e a N l H₁ else E.e b N l H₁) = some (v, H')) (F : Fm B env ρ l s.heap) (S : St B ρ H s.heap) :
    wpAny (MM B) A (eval (.IfExp t a b p) env) (EP B env l ρ s v H') never s := by
  refine wpAny_IfExp (wpAny_mono (test_ok G g ft hN h1 F S) (fun c s₁ p => ?_) fun _ _ z => z)
  obtain ⟨rfl, ρ₁, x1, F1, S1⟩ := p
  cases c with
  | true =>
    rw [if_pos rfl] at h ⊢
    exact wpAny_mono (g _ N l H₁ _ _ h A env ρ₁ s₁ ft hN F1 S1) (fun z s₂ p => p.after x1) fun _ _ z => z
  | false =>
    rw [if_neg Bool.false_ne_true] at h ⊢
    exact wpAny_mono (g _ N l H₁ _ _ h A env ρ₁ s₁ ft hN F1 S1) (fun z s₂ p => p.after x1) fun _ _ z => z
theorem list_ok {es : List Expr} {p : Pos} {vs : List AV} {H₁ : AH} (g : GE B n E) (ft : Fit n A) (hN : env.scope.names = N) (hp : plainArgs es = true) (h1 : evs E N l es H = some (vs, H₁)) (F : Fm B env ρ l s.heap) (S : St B ρ H s.heap) :
    wpAny (MM B) A (eval (.List es p) env) (EP B env l ρ s (.ref H₁.length) (H₁ ++ [.list vs])) never s := by
  refine wpAny_List_spliced ?_
  rw [backTo_star _ (plainArgs_of hp).1]
  refine wpAny_mono (evs_ok g ft hN h1 F S) (fun us s₁ p => ?_) fun _ _ z => z
  obtain ⟨ρ₁, x1, F1, S1, r1⟩ := p
  refine ⟨?_, (EP.of F1 (CP.push (ao := .list vs) (tk := s₁.toks) S1 fun ρ' hp => ⟨us, 0, rfl, r1.mono hp⟩)).after x1⟩
  have := evs_length h1
  rw [← r1.length, this, sizeLine_eq]
  have := (plainArgs_of hp).2
  omega
theorem tuple_ok {es : List Expr} {k : Nat} {p : Pos} {vs : List AV} {H₁ : AH} (g : GE B n E) (ft : Fit n A) (hN : env.scope.names = N) (hp : plainArgs es = true) (h1 : evs E N l es H = some (vs, H₁)) (F : Fm B env ρ l s.heap) (S : St B ρ H s.heap) :
    wpAny (MM B) A (eval (.Tuple es k p) env) (EP B env l ρ s (.ref H₁.length) (H₁ ++ [.tup vs])) never s := by
  refine wpAny_Tuple_spliced ?_
  rw [backTo_star _ (plainArgs_of hp).1]
  refine wpAny_mono (evs_ok g ft hN h1 F S) (fun us s₁ p => ?_) fun _ _ z => z
  obtain ⟨ρ₁, x1, F1, S1, r1⟩ := p
  refine ⟨?_, (EP.of F1 (CP.push (ao := .tup vs) (tk := s₁.toks) S1 fun ρ' hp => ⟨us, 0, rfl, r1.mono hp⟩)).after x1⟩
  have := evs_length h1
  rw [← r1.length, this, sizeLine_eq]
  have := (plainArgs_of hp).2
  omega
theorem attr_ok {c f : Str} {cp pos : Pos} (G : Gd B) (io : IO B n E) (ft : Fit n A) (hN : env.scope.names = N) (h : evAttr N l c f H = some (v, H')) (F : Fm B env ρ l s.heap) (S : St B ρ H s.heap) :
    wpAny (MM B) A (eval (.Attribute (.Name c cp) f pos) env) (EP B env l ρ s v H') never s := by
  rw [arm_eval_Attribute]
  show wpAny _ A (do let o ← eval (.Name c cp) env; standAt pos.atName; let r ← holding [o] (getAttr o f true); letTemporaryGo (.Name c cp) o r; pure r) _ _ s
  unfold evAttr at h
  by_cases hx : (isVar N c && isField f) = true
  · rw [if_pos hx] at h
    rw [Bool.and_eq_true] at hx
    obtain ⟨w, hw, h⟩ := bind_inv h
    obtain ⟨y, hy, e⟩ := map_inv h
    cases e
    refine wpAny_bind (wpAny_Name (F.load (by rw [hN]; exact hx.1) hw fun u r => ?_) (isVar_debug hx.1))
    refine wpAny_bind (wpAny_standAt (wpAny_bind (wpAny_holding (wpAny_mono (io.attr A ρ _ s w v f u ft S hx.2 hy r) (fun z s₁ p => ?_) fun _ _ z => z))))
    exact wpAny_bind (wpAny_pure (wpAny_pure (EP.of F p)))
  · rw [if_neg hx] at h
    obtain ⟨⟨hg, rfl⟩, h2⟩ := if_inv h
    clear h
    refine wpAny_bind (glob_ok G F S hN hg (fv := .ref 83) (by decide +kernel) ?_)
    refine wpAny_bind (wpAny_standAt (wpAny_bind (wpAny_holding ?_)))
    by_cases hf : f = "S"
    · rw [if_pos hf] at h2
      refine res2 h2 ?_
      subst hf
      exact wpAny_mono (io.clsS A ρ _ s ft S) (fun z s₁ p => wpAny_bind (wpAny_pure (wpAny_pure (EP.of F p)))) fun _ _ z => z
    · rw [if_neg hf] at h2
      obtain ⟨rfl, h3⟩ := if_inv h2
      refine res2 h3 ?_
      exact wpAny_mono (io.clsT A ρ _ s ft S) (fun z s₁ p => wpAny_bind (wpAny_pure (wpAny_pure (EP.of F p)))) fun _ _ z => z
theorem slice_ok {lo hi st : Option Expr} {a : Expr} {sp : Pos} {w : AV} {x y z : Option AV} {ua : Value} {H₁ H₂ H₃ H₄ : AH} (G : Gd B) (g : GE B n E) (ft : Fit n A) (hN : env.scope.names = N) (h2 : slicePart E N l lo H₁ = some (x, H₂)) (h3 : slicePart E N l hi H₂ = some (y, H₃)) (h4 : slicePart E N l st H₃ = some (z, H₄))
    (h : getSlice B.ns w x y z H₄ = some (v, H')) (F1 : Fm B env ρ l s.heap) (S1 : St B ρ H₁ s.heap) (r1 : VR B ρ w ua) :
    wpAny (MM B) A (eval (.Slice lo hi st sp) env) (fun i s₁ => wpAny (MM B) A (subscriptTail a (.Slice lo hi st sp) ua i) (EP B env l ρ s v H') never s₁) never s := by
  refine wpAny_Slice (wpAny_mono (part_ok g ft hN h2 F1 S1) (fun ul s₂ p => ?_) fun _ _ z => z)
  obtain ⟨ρ₂, x2, F2, S2, r2⟩ := p
  refine wpAny_mono (part_ok g ft hN h3 F2 S2) (fun uh s₃ p => ?_) fun _ _ z => z
  obtain ⟨ρ₃, x3, F3, S3, r3⟩ := p
  refine wpAny_mono (part_ok g ft hN h4 F3 S3) (fun us s₄ p => ?_) fun _ _ z => z
  obtain ⟨ρ₄, x4, F4, S4, r4⟩ := p
  have xx := (x2.trans x3).trans x4
  have r2 := r2.mono (x3.pre.trans x4.pre)
  have r3 := r3.mono x4.pre
  clear x2 x3 x4 F2 F3 S2 S3 h2 h3 h4 S1 F1
  have hk : ∀ b o', s₄.heap.get? b = some o' → (s₄.heap.push { cls := .type "slice", data := .fields #[ul, uh, us] }).get? b = some o' := fun b o' e => Heap.get?_push_of_some _ e
  have x5 : Ext ρ₄ noO s₄ ρ₄ { s₄ with heap := s₄.heap.push { cls := .type "slice", data := .fields #[ul, uh, us] } } := Ext.keeps (tk := s₄.toks) hk
  refine wpAny_mono (getSlice_ok G ft h (S4.keeps hk) (r1.mono xx.pre) (Heap.IsSliceOf.new s₄.heap ul uh us) r2 r3 r4) (fun q s₅ p => ?_) fun _ _ z => z
  exact (EP.of (F4.move x5) p).after (xx.trans x5)
theorem not_slice {e : Expr} (h : sliceParts e = none) : ∀ lo hi st p, e ≠ .Slice lo hi st p := by
  rintro lo hi st p rfl
  cases h
theorem sub_ok {a c : Expr} {u : AV} {p : Pos} {H₁ : AH} (G : Gd B) (g : GE B n E) (ft : Fit n A) (hN : env.scope.names = N) (h1 : E.e a N l H = some (u, H₁)) (h : evSub B.ns E N l c u H₁ = some (v, H')) (F : Fm B env ρ l s.heap) (S : St B ρ H s.heap) :
    wpAny (MM B) A (eval (.Subscript a c p) env) (EP B env l ρ s v H') never s := by
  refine Subscript_ (wpAny_mono (g _ N l H _ _ h1 A env ρ s ft hN F S) (fun x s₁ p => ?_) fun _ _ z => z)
  obtain ⟨ρ₁, x1, F1, S1, r1⟩ := p
  unfold evSub at h
  cases hc : sliceParts c with
  | some q =>
    obtain ⟨lo, hi, st⟩ := q
    rw [hc] at h
    obtain ⟨sp, rfl⟩ := sliceParts_inv hc
    obtain ⟨x, H₂, h2, h⟩ := obind_inv h
    obtain ⟨y, H₃, h3, h⟩ := obind_inv h
    obtain ⟨z, H₄, h4, h⟩ := obind_inv h
    exact wpAny_mono (slice_ok G g ft hN h2 h3 h4 h F1 S1 r1) (fun i s₂ q => wpAny_mono q (fun z s₃ q => q.after x1) fun _ _ z => z) fun _ _ z => z
  | none =>
    rw [hc] at h
    obtain ⟨w, H₂, h2, h⟩ := obind_inv h
    refine wpAny_mono (g _ N l H₁ _ _ h2 A env ρ₁ s₁ ft hN F1 S1) (fun y s₂ p => ?_) fun _ _ z => z
    obtain ⟨ρ₂, x2, F2, S2, r2⟩ := p
    exact wpAny_mono (getItem_ok G ft (not_slice hc) h S2 (r1.mono x2.pre) r2) (fun z s₃ p => (EP.of F2 p).after (x1.trans x2)) fun _ _ z => z
theorem callM_ok {o : Expr} {f : Str} {ap p : Pos} {es : List Expr} (G : Gd B) (g : Good B n E) (io : IO B n E) (ft : Fit n A) (hN : env.scope.names = N) (h : evCall E N l (.Attribute o f ap) es p H = some (v, H')) (F : Fm B env ρ l s.heap) (S : St B ρ H s.heap) :
    wpAny (MM B) A (eval (.Call (.Attribute o f ap) es [] p) env) (EP B env l ρ s v H') never s := by
  obtain ⟨hc, h⟩ := if_inv h
  simp only [Bool.and_eq_true] at hc
  refine hide fun hG hF => ?_
  obtain ⟨⟨hb, hp⟩, hl⟩ := hc
  obtain ⟨w, H₁, h1, h⟩ := obind_inv h
  obtain ⟨vs, H₂, h2, h⟩ := obind_inv h
  obtain ⟨hk, h⟩ := if_inv h
  refine hF ?_
  clear hF hG
  refine meth_rule hb hp hl (wpAny_mono (g.e _ N l H _ _ h1 A env ρ s ft hN F S) (fun ov s₁ q pl => ?_) fun _ _ z => z)
  obtain ⟨ρ₁, x1, F1, S1, r1⟩ := q
  exact wpAny_mono (method_ok G g io ft hN h2 hk h F1 S1 r1) (fun fx s₂ q => wpAny_mono q (fun z s₃ q => q.after x1) fun _ _ z => z) fun _ _ z => z
theorem callN_ok {f : Str} {fp p : Pos} {es : List Expr} (G : Gd B) (g : Good B n E) (io : IO B n E) (ft1 : Fit (n + 1) A) (hN : env.scope.names = N) (h : evCall E N l (.Name f fp) es p H = some (v, H')) (F : Fm B env ρ l s.heap) (S : St B ρ H s.heap) :
    wpAny (MM B) A (eval (.Call (.Name f fp) es [] p) env) (EP B env l ρ s v H') never s := by
  have ft : Fit n A := ft1.mono (Nat.le_succ n)
  obtain ⟨hf, h0⟩ := if_inv h
  rw [Bool.and_eq_true] at hf
  obtain ⟨vs, H₁, h1, h2⟩ := obind_inv h0
  clear h h0
  have h := h2
  clear h2
  unfold callF at h
  by_cases hw : f = "Whitespace"
  · rw [if_pos hw] at h
    subst hw
    refine hide fun hG hF => ?_
    obtain ⟨y, rfl, h⟩ := onOne_inv h
    obtain ⟨r, H₂, h2, h⟩ := obind_inv h
    obtain ⟨q, h⟩ := if_inv h
    refine hF ?_
    clear hF hG
    obtain rfl := isNone_of q
    refine res2 h ?_
    exact name_call hf.2 (glob_ok G F S hN hf.1 (fv := .ref 83) (by decide +kernel) (io.make A env p l N ρ H _ _ s es y ft1 hN F S h1 h2))
  rw [if_neg hw] at h
  by_cases hb : isBuiltin f = true
  · rw [if_pos hb] at h
    obtain ⟨fv, hv⟩ := bval_of hb
    exact call_bval G g.e ft hN hf.1 hf.2 h1 hv F S fun us s' ρ' x' F' S' rr => wpAny_mono (builtin_ok ft h hv S' rr) (fun z s₃ q => (EP.of F' q).after x') fun _ _ z => z
  · rw [if_neg hb] at h
    obtain ⟨hb, fa, hfa, hfn⟩ := io.knownC _ _ _ _ h
    exact call_fn G g.e ft hN hf.1 hf.2 h1 hb hfa hfn F S fun us s' ρ' x' F' S' rr => wpAny_mono (call_back (g.c f fa _ _ _ _ h hfa A ρ' s' _ ft S' rr)) (fun z s₃ q => (EP.of F' q).after x') fun _ _ z => z
/-- the parts of a comprehension's value -/
theorem evComp_inv {elt tg it : Expr} {ifs : List Expr} {sc : Scope} (h : evComp E N l H elt tg it ifs sc = some (v, H')) : compOk N sc = true ∧ ∃ vs gd H₁, items E N l H tg it = some (vs, gd, H₁) ∧ v = .ref H₁.length ∧
    compIt (bindK sc.names tg) (fun l H => tests E (compNames sc.names) l ifs H) (fun l H => E.e elt (compNames sc.names) l H) gd H₁.length vs (compLocals sc.names l) (H₁ ++ [.list []]) = some H' := by
  obtain ⟨hok, h⟩ := if_inv h
  refine ⟨hok, ?_⟩
  cases hi : items E N l H tg it with
  | none => rw [hi] at h; exact nn h
  | some q =>
    obtain ⟨vs, gd, H₁⟩ := q
    rw [hi] at h
    obtain ⟨H₂, h2, h⟩ := map_inv h
    cases h
    exact ⟨vs, gd, H₁, rfl, rfl, h2⟩
theorem lcomp_ok {elt tg it : Expr} {ifs : List Expr} {sc : Scope} {p : Pos} (G : Gd B) (g : GE B n E) (gi : E.gen = true → GI B n) (ft : Fit n A) (hN : env.scope.names = N) (h : evComp E N l H elt tg it ifs sc = some (v, H')) (F : Fm B env ρ l s.heap) (S : St B ρ H s.heap) :
    wpAny (MM B) A (eval (.ListComp elt [⟨tg, it, ifs, 0⟩] sc p) env) (EP B env l ρ s v H') never s := by
  obtain ⟨hok, vs, gd, H₁, h1, rfl, h2⟩ := evComp_inv h
  obtain ⟨hs, hI⟩ := items_ok G g gi ft hN h1 F S
  rw [eval_ListComp]
  refine listcomp_ok (use := none) G g ft hN hok hs F S hI h2 fun ρ' s' Da C x' F' S' hD hm hC hO hB h0 => ?_
  obtain ⟨m, hm⟩ := hm
  refine ⟨m, hm, fun h' hsb => ?_⟩
  have hk : ∀ b o, b ≠ C → s'.heap.get? b = some o → h'.get? b = some o := fun b o hb e => (hsb.2 b hb).trans e
  have x'' : Ext ρ noO s ρ' { s' with heap := h' } := ⟨x'.pre, x'.new, fun b o e hb ho => hk b o (fun q => by rw [q, h0] at e; exact nn e) (x'.kept b o e hb ho), fun b o e => (by
    obtain ⟨o', e'⟩ := x'.alive b o e
    exact ⟨o', hk b o' (fun q => by rw [q, h0] at e; exact nn e) e'⟩), x'.gens, x'.bare, x'.os⟩
  exact ⟨ρ', x'', F.move x'', S'.keepsBut hC hB hk, .ref hD⟩
theorem evE_ok {e : Expr} (G : Gd B) (g : Good B n E) (io : IO B n E) (gi : E.gen = true → GI B n) (ft1 : Fit (n + 1) A) (hN : env.scope.names = N) (h : evE B.ns E e N l H = some (v, H')) (F : Fm B env ρ l s.heap) (S : St B ρ H s.heap) :
    wpAny (MM B) A (eval e env) (EP B env l ρ s v H') never s := by
  have ft : Fit n A := ft1.mono (Nat.le_succ n)
  revert h
  cases e with
  | Constant c k p => exact fun h => const_ok h F S
  | Name x p =>
    intro h
    obtain ⟨hx, h⟩ := if_inv h
    obtain ⟨w, hw, e⟩ := map_inv h
    cases e
    exact wpAny_Name (F.load (by rw [hN]; exact hx) hw fun u r => EP.of F (CP.same S r)) (isVar_debug hx)
  | BinOp a op b p =>
    intro h
    obtain ⟨u, H₁, h1, h⟩ := obind_inv h
    obtain ⟨w, H₂, h2, h⟩ := obind_inv h
    exact bin_ok g.e ft hN h1 h2 h F S
  | UnaryOp op a p =>
    intro h
    obtain ⟨rfl, h⟩ := if_inv h
    obtain ⟨u, H₁, h1, h⟩ := obind_inv h
    obtain ⟨i, rfl, h⟩ := onInt_inv h
    refine res2 h ?_
    exact neg_ok g.e ft hN h1 F S
  | Compare a ops cs p =>
    intro h
    obtain ⟨op, rfl, h⟩ := onOne_inv h
    obtain ⟨b, rfl, h⟩ := onOne_inv h
    obtain ⟨hb, h⟩ := if_inv h
    obtain ⟨u, H₁, h1, h⟩ := obind_inv h
    obtain ⟨w, H₂, h2, h⟩ := obind_inv h
    obtain ⟨c, hc, e⟩ := map_inv h
    cases e
    exact wpAny_Compare1 (cmp_two G g.e ft hN h1 h2 hc F S fun s' ρ' x' F' S' => ⟨ρ', x', F', S', .bool _⟩) (no_marks hb)
  | IfExp t a b p =>
    intro h
    obtain ⟨q, H₁, h1, h⟩ := obind_inv h
    exact ifexp_ok G g.e ft hN h1 h F S
  | List es p =>
    intro h
    obtain ⟨hp, h⟩ := if_inv h
    obtain ⟨vs, H₁, h1, h⟩ := obind_inv h
    refine res2 h ?_
    exact list_ok g.e ft hN hp h1 F S
  | Tuple es k p =>
    intro h
    obtain ⟨hp, h⟩ := if_inv h
    obtain ⟨vs, H₁, h1, h⟩ := obind_inv h
    refine res2 h ?_
    exact tuple_ok g.e ft hN hp h1 F S
  | Dict ks vs p =>
    intro h
    obtain ⟨⟨rfl, rfl⟩, h⟩ := if_inv h
    refine res2 h ?_
    exact wpAny_Dict_empty (EP.of F (CP.push (ao := .dict []) (tk := s.toks) S fun ρ' hp => ⟨#[], [], ⟨rfl, rfl, rfl⟩, rfl, fun e he => by simp at he, .nil, .nil, .nil⟩))
  | Attribute o f p =>
    intro h
    obtain ⟨c, hc, h⟩ := bind_inv h
    obtain ⟨cp, rfl⟩ := nameOf_inv hc
    exact attr_ok G io ft hN h F S
  | Subscript a c p =>
    intro h
    obtain ⟨u, H₁, h1, h⟩ := obind_inv h
    exact sub_ok G g.e ft hN h1 h F S
  | Call f es ks p =>
    intro h
    obtain ⟨rfl, h⟩ := if_inv h
    revert h
    cases f with
    | Attribute o f ap => exact fun h => callM_ok G g io ft hN h F S
    | Name f fp => exact fun h => callN_ok G g io ft1 hN h F S
    | _ => exact nn
  | ListComp elt gs sc p =>
    intro h
    obtain ⟨⟨tg, it, ifs, q⟩, rfl, h⟩ := onOne_inv h
    obtain ⟨hq, h⟩ := if_inv h
    cases hq
    exact lcomp_ok G g.e gi ft hN h F S
  | _ => exact nn
end
end Mine
end
section
/-! Statements. -/
namespace Mine
open PySem PySem.Spec PySem.Calls PyProof.Rows
set_option maxRecDepth 100000

section
variable {B : Bs} {n : Nat} {A : Around} {env : Env} {E : Evs} {N : Names} {l l' : AL} {ρ : List Addr} {s : Shared} {H H' : AH} {v : AV}
theorem interactive_no (F : Fm B env ρ l s.heap) : interactive env = false := by
  unfold interactive
  rw [F.kind]; rfl
theorem XP.after {ρ₁ : List Addr} {s₁ s₂ : Shared} {f : AF} {fl : Flow} (x : Ext ρ (own env) s ρ₁ s₁) (h : XP B env ρ₁ s₁ f l' H' fl s₂) : XP B env ρ s f l' H' fl s₂ := by
  obtain ⟨ρ₂, a, b, c, d⟩ := h
  exact ⟨ρ₂, x.trans a, b, c, d⟩
theorem no_swap {e : Expr} (h : noComp e = true) (t : Option Expr) (k : Nat) : swapsWith e t k env = pure false := by
  revert h
  unfold swapsWith
  cases e <;> first | exact fun _ => rfl | exact ff
theorem expr_ok {e : Expr} {p : Pos} {H₁ : AH} (g : GE B n E) (ft : Fit n A) (hN : env.scope.names = N) (h : E.e e N l H = some (v, H₁)) (hc : noComp e = true) (F : Fm B env ρ l s.heap) (S : St B ρ H s.heap) :
    wpAny (MM B) A (exec (.Expr e p) env) (XP B env ρ s .next l H₁) never s := by
  refine wpAny_Expr_any (wpAny_mono (g e N l H v H₁ h A env ρ s ft hN F S) (fun u s₁ q => ?_) fun _ _ z => z) (interactive_no F) (no_swap hc _ _)
  obtain ⟨ρ₁, x1, F1, S1, _⟩ := q
  exact ⟨ρ₁, x1.any, F1, S1, .next⟩
theorem return_ok {e : Expr} {p : Pos} {H₁ : AH} (g : GE B n E) (ft : Fit n A) (hN : env.scope.names = N) (h : E.e e N l H = some (v, H₁)) (F : Fm B env ρ l s.heap) (S : St B ρ H s.heap) :
    wpAny (MM B) A (exec (.Return (some e) p) env) (XP B env ρ s (.ret v) l H₁) never s :=
  wpAny_Return_some (wpAny_mono (g e N l H v H₁ h A env ρ s ft hN F S) (fun u s₁ q => by
    obtain ⟨ρ₁, x1, F1, S1, r1⟩ := q
    exact ⟨ρ₁, x1.any, F1, S1, .ret r1⟩) fun _ _ z => z)
theorem if_ok {t : Expr} {a b : List Stmt} {p : Pos} {c : Bool} {H₁ : AH} {f : AF} (G : Gd B) (g : Good B n E) (ft : Fit n A) (hN : env.scope.names = N) (h : cond E N l t H = some (c, H₁)) (hb : E.x (if c then a else b) N l H₁ = some (f, l', H')) (F : Fm B env ρ l s.heap) (S : St B ρ H s.heap) :
    wpAny (MM B) A (exec (.If t a b p) env) (XP B env ρ s f l' H') never s := by
  refine wpAny_If (wpAny_mono (cond_ok G g.e ft hN h F S) (fun c' s₁ q => ?_) fun _ _ z => z)
  obtain ⟨rfl, ρ₁, x1, F1, S1⟩ := q
  cases c' with
  | true => rw [if_pos rfl]; exact wpAny_mono (g.x _ N l H₁ _ _ _ hb A env ρ₁ s₁ ft hN F1 S1) (fun fl s₂ q => q.after x1.any) fun _ _ z => z
  | false => rw [if_neg Bool.false_ne_true]; exact wpAny_mono (g.x _ N l H₁ _ _ _ hb A env ρ₁ s₁ ft hN F1 S1) (fun fl s₂ q => q.after x1.any) fun _ _ z => z
theorem forS_ok {tg it : Expr} {body : List Stmt} {p : Pos} {vs : List (List AV)} {gd : AH → Bool} {H₁ : AH} {f : AF} (G : Gd B) (g : Good B n E) (gi : E.gen = true → GI B n) (ft : Fit n A) (hN : env.scope.names = N) (h : items E N l H tg it = some (vs, gd, H₁))
    (hb : forIt (bindT N tg) (fun l H => E.x body N l H) gd vs l H₁ = some (f, l', H')) (F : Fm B env ρ l s.heap) (S : St B ρ H s.heap) :
    wpAny (MM B) A (exec (.For tg it body [] p) env) (XP B env ρ s f l' H') never s := by
  obtain ⟨hs, hI⟩ := items_ok G g.e gi ft hN h F S
  refine wpAny_For (wpAny_mono hI (fun x s₁ q => wpAny_mono q (fun itV s₂ q => ?_) fun _ _ z => z) fun _ _ z => z) hs
  obtain ⟨ρ₁, x1, F1, S1, wr, w1, w2, w3, w5⟩ := q
  have off : Off B env ρ₁ wr := ⟨w3, fun a ha hw => by
    rcases ha with q | ⟨y, hy, q⟩
    · refine hide fun hG hF => ?_
      obtain ⟨m, ⟨o, _, _, ho, _⟩, _⟩ := F.ns
      refine hF ?_
      clear hF hG
      rw [q] at hw
      exact w1 _ _ ho hw
    · refine hide fun hG hF => ?_
      obtain ⟨c, w, h1, ⟨o, ho, _⟩, _⟩ := F.cel y hy
      refine hF ?_
      clear hF hG
      rw [q] at h1; cases h1
      exact w1 _ _ ho hw, fun a o e hw => w1 a o (S.keep a o e) hw⟩
  obtain ⟨J, W, j⟩ := w5 env off
  refine codeAny_mono (for_ok g.x ft hN W hb x1.any F1 S1 j) fun r s' q => ?_
  cases r with
  | ok fl => exact q
  | error e => exact q.elim
theorem exL_ok {stm : Stmt → Prop} (hS : ∀ st N l H f l' H', stm st → exS E st N l H = some (f, l', H') → ∀ A env ρ s, Fit n A → env.scope.names = N → Fm B env ρ l s.heap → St B ρ H s.heap → wpAny (MM B) A (exec st env) (XP B env ρ s f l' H') never s)
    (all : ∀ st, stm st) : ∀ {b : List Stmt} {f : AF} {l l' : AL} {H H' : AH} {ρ : List Addr} {s : Shared}, exL E N b l H = some (f, l', H') → Fit n A → env.scope.names = N → Fm B env ρ l s.heap → St B ρ H s.heap → wpAny (MM B) A (execs b env) (XP B env ρ s f l' H') never s
  | [], f, l, l', H, H', ρ, s, h, ft, hN, F, S => by
    refine res3 h ?_
    exact wpAny_execs_nil ⟨ρ, .refl, F, S, .next⟩
  | st :: r, f, l, l', H, H', ρ, s, h, ft, hN, F, S => by
    unfold exL at h
    split at h
    · rename_i l₁ H₁ h1
      refine wpAny_execs_cons (wpAny_mono (hS st N l H _ _ _ (all st) h1 A env ρ s ft hN F S) (fun fl s₁ p => ?_) fun _ _ z => z)
      obtain ⟨ρ₁, x1, F1, S1, fr⟩ := p
      cases fr
      exact wpAny_mono (exL_ok hS all h ft hN F1 S1) (fun fl s₂ q => q.after x1) fun _ _ z => z
    · rename_i f₁ l₁ H₁ hne h1
      refine res3 h ?_
      refine wpAny_execs_cons (wpAny_mono (hS st N l H _ _ _ (all st) h1 A env ρ s ft hN F S) (fun fl s₁ p => ?_) fun _ _ z => z)
      obtain ⟨ρ₁, x1, F1, S1, fr⟩ := p
      cases fr with
      | next => first | exact (hne _ _ rfl).elim | exact (hne _ _ h1).elim | exact (hne rfl).elim
      | brk => exact ⟨ρ₁, x1, F1, S1, .brk⟩
      | ret rv => exact ⟨ρ₁, x1, F1, S1, .ret rv⟩
    · exact nn h

theorem aug_ok {x : Str} {xp p : Pos} {op : Operator} {e : Expr} {a b : Int} {H₁ : AH} (g : GE B n E) (ft : Fit n A) (hN : env.scope.names = N) (hx : isVar N x = true) (hl : l x = some (.int a)) (h : E.e e N l H = some (.int b, H₁)) (F : Fm B env ρ l s.heap) (S : St B ρ H s.heap) {c : Int}
    (ho : (op = .Add ∧ c = a + b) ∨ (op = .Sub ∧ c = a - b)) : wpAny (MM B) A (exec (.AugAssign (.Name x xp) op e p) env) (XP B env ρ s .next (put l x (.int c)) H₁) never s := by
  refine wpAny_AugAssign_Name (F.load (by rw [hN]; exact hx) hl fun u r => ?_)
  obtain ⟨t, rfl⟩ := r.intI
  refine wpAny_mono (g e N l H _ H₁ h A env ρ s ft hN F S) (fun w s₁ q => ?_) fun _ _ z => z
  obtain ⟨ρ₁, x1, F1, S1, r1⟩ := q
  obtain ⟨t', rfl⟩ := r1.intI
  rcases ho with ⟨rfl, rfl⟩ | ⟨rfl, rfl⟩
  · refine iadd_int (Fm.store (s := { s₁ with toks := s₁.toks + 1 }) F1 S1 (by rw [hN]; exact hx) (.int ..) fun h' tk e F' S' => ?_)
    exact ⟨ρ₁, (x1.any.trans (Ext.toks (tk := s₁.toks + 1))).trans e, F', S', .next⟩
  · refine PyProof.Rows.isub_int (Fm.store (s := { s₁ with toks := s₁.toks + 1 }) F1 S1 (by rw [hN]; exact hx) (.int ..) fun h' tk e F' S' => ?_)
    exact ⟨ρ₁, (x1.any.trans (Ext.toks (tk := s₁.toks + 1))).trans e, F', S', .next⟩
theorem assign_name_ok {x : Str} {xp p : Pos} {e : Expr} {H₁ : AH} (g : GE B n E) (ft : Fit n A) (hN : env.scope.names = N) (hx : isVar N x = true) (hc : noComp e = true) (h : E.e e N l H = some (v, H₁)) (F : Fm B env ρ l s.heap) (S : St B ρ H s.heap) :
    wpAny (MM B) A (exec (.Assign [.Name x xp] e p) env) (XP B env ρ s .next (put l x v) H₁) never s := by
  refine wpAny_Assign_Name (wpAny_mono (g e N l H _ H₁ h A env ρ s ft hN F S) (fun w s₁ q => ?_) fun _ _ z => z) (no_swap hc _ _)
  obtain ⟨ρ₁, x1, F1, S1, r1⟩ := q
  exact F1.store S1 (by rw [hN]; exact hx) r1 fun h' tk e F' S' => ⟨ρ₁, x1.any.trans e, F', S', .next⟩

theorem swap_comp (elt : Expr) (gens : List Comprehension) (sc : Scope) (p xp : Pos) (x : Str) (k : Nat) : ∃ b, swapsWith (.ListComp elt gens sc p) (some (.Name x xp)) k env = pure b := ⟨_, rfl⟩
theorem assign_comp_ok {x : Str} {xp p pos : Pos} {elt tg it : Expr} {ifs : List Expr} {sc : Scope} {H₁ : AH} (G : Gd B) (g : GE B n E) (gi : E.gen = true → GI B n) (ft : Fit n A) (hN : env.scope.names = N) (hx : isVar N x = true) (h : evComp E N l H elt tg it ifs sc = some (v, H₁))
    (F : Fm B env ρ l s.heap) (S : St B ρ H s.heap) : wpAny (MM B) A (exec (.Assign [.Name x xp] (.ListComp elt [⟨tg, it, ifs, 0⟩] sc pos) p) env) (XP B env ρ s .next (put l x v) H₁) never s := by
  refine hide fun hG hF => ?_
  obtain ⟨hok', vs, gd, H₂, h1, rfl, h2⟩ := evComp_inv h
  obtain ⟨hs, hI⟩ := items_ok G g gi ft hN h1 F S
  refine hF ?_
  clear hF hG
  have hx' : isVar env.scope.names x = true := by rw [hN]; exact hx
  obtain ⟨b, hb⟩ := swap_comp (env := env) elt [⟨tg, it, ifs, 0⟩] sc pos xp x p.line
  cases b with
  | true =>
    rw [exec_Assign_Name_used x xp _ p hb]
    refine wpAny_bind (wpAny_standAt (wpAny_bind ?_))
    show wpAny _ A (do let _ ← comprehension (.ListComp elt [⟨tg, it, ifs, 0⟩] sc pos) sc env (firstIterPos [⟨tg, it, ifs, 0⟩] pos) (newList []) false (eval it env) (some (assign (.Name x xp) env))) _ _ s
    refine wpAny_bind (listcomp_ok (use := some (assign (.Name x xp) env)) G g ft hN hok' hs F S hI h2 fun ρ' s' Da C x' F' S' hD hm hC hO hB h0 => ?_)
    obtain ⟨m, hm⟩ := hm
    refine wpAny_mono (store_ok F' S' hx' (.ref hD)) (fun _ s₁ q => ?_) fun _ _ z => z
    refine hide fun hG hF => ?_
    obtain ⟨e1, F1, S1⟩ := q
    obtain ⟨oC, es, ep, hoC, hrest⟩ := hm
    refine hF ?_
    clear hF hG
    refine ⟨m, ⟨oC, es, ep, e1.kept C oC hoC hC hO, hrest⟩, fun h' hsb => ?_⟩
    have hk : ∀ b o, b ≠ C → s₁.heap.get? b = some o → h'.get? b = some o := fun b o hb e => (hsb.2 b hb).trans e
    have z : Ext ρ (own env) s ρ' s₁ := x'.any.trans e1
    have notC : ∀ b o, s.heap.get? b = some o → b ≠ C := fun b o e q => by rw [q, h0] at e; exact nn e
    have x'' : Ext ρ (own env) s ρ' { s₁ with heap := h' } := ⟨z.pre, z.new, fun b o e hb ho => hk b o (notC b o e) (z.kept b o e hb ho), fun b o e => (by
      obtain ⟨o', e'⟩ := z.alive b o e
      exact ⟨o', hk b o' (notC b o e) e'⟩), z.gens, z.bare, z.os⟩
    refine wpAny_pure (wpAny_pure ⟨ρ', x'', ?_, S1.keepsBut hC hB hk, .next⟩)
    exact F1.kp (s := s₁) (s' := { s₁ with heap := h' }) (wr := (· = C)) (gw := fun _ => False) ⟨fun a ha q => hC ((show a = C from q) ▸ ha), fun a ha q => hO ((show a = C from q) ▸ ha), fun a o e q => by have q' : a = C := q; rw [q', hB] at e; cases e⟩ (Kp.heapOnly (tk := s₁.toks) fun b o hb e => hk b o hb e)
  | false =>
    refine wpAny_Assign_Name ?_ hb
    rw [eval_ListComp]
    refine listcomp_ok (use := none) G g ft hN hok' hs F S hI h2 fun ρ' s' Da C x' F' S' hD hm hC hO hB h0 => ?_
    obtain ⟨m, hm⟩ := hm
    refine ⟨m, hm, fun h' hsb => ?_⟩
    have hk : ∀ b o, b ≠ C → s'.heap.get? b = some o → h'.get? b = some o := fun b o hb e => (hsb.2 b hb).trans e
    have x'' : Ext ρ noO s ρ' { s' with heap := h' } := ⟨x'.pre, x'.new, fun b o e hb ho => hk b o (fun q => by rw [q, h0] at e; exact nn e) (x'.kept b o e hb ho), fun b o e => (by
      obtain ⟨o', e'⟩ := x'.alive b o e
      exact ⟨o', hk b o' (fun q => by rw [q, h0] at e; exact nn e) e'⟩), x'.gens, x'.bare, x'.os⟩
    exact Fm.store (s := { s' with heap := h' }) (F.move x'') (S'.keepsBut hC hB hk) hx' (.ref hD) fun h'' tk e F'' S'' => ⟨ρ', x''.any.trans e, F'', S'', .next⟩
end
end Mine
end
section
/-! Stores. -/
namespace Mine
open PySem PySem.Spec PySem.Calls PyProof.Rows
set_option maxRecDepth 100000

section
variable {B : Bs} {n : Nat} {A : Around} {ρ : List Addr} {s : Shared} {H H' : AH} {v : AV}
theorem set_list_exact {l : Addr} {vs : List Value} {m : Nat} {k : Int} {t : Tok} {u : Value} {Q : Unit → Shared → Prop} (g : s.heap.get? l = some { cls := .type "list", data := .seq vs.toArray m }) (h0 : 0 ≤ k) (hk : k.toNat < vs.length) (hfit : k < 2 ^ 63)
    (hQ : Q () { s with heap := s.heap.update l (Obj.mapSeq (·.setIfInBounds k.toNat u)) }) : wpAny (MM B) A (setItem (.ref l) (.int k t) u) Q never s := by
  have hT : s.TypeIs (.ref l) "list" := ⟨_, g, rfl⟩
  unfold setItem
  try with_reducible refine wpAny_holding ?_
  first | refine wpAny_bind (wpAny_pure ?_) | skip
  refine wpAny_bind (wpAny_sequenceKey hT (by decide) ?_)
  refine wpAny_bind (wpAny_callSpecial?_slot (name := Str.ofString "__setitem__") hT slot_list_setitem (wpAny_call_entry slot_list_setitem hT entry_list_setitem ?_ (args_list_setitem _ _ _)))
  show wpAny _ _ (Builtin.List.listSubscript? (.int k t) >>= _) _ _ s
  refine wpAny_bind (wpAny_listSubscript_int (fitsIndex_of h0 hfit) ?_)
  clear hfit
  obtain ⟨j, rfl⟩ := Int.eq_ofNat_of_zero_le h0
  have hj : j < vs.length := hk
  have hx' : vs.toArray[j]? = some vs[j] := by simp [hj]
  show wpAny _ _ ((seqItemAt l j >>= fun r => pure (r.map (j, ·))) >>= _) _ _ s
  refine wpAny_bind (wpAny_bind (wpAny_seqItemAt g rfl (wpAny_pure ?_)))
  rw [hx']
  show wpAny _ _ (setSeqItemAt l j u >>= _) _ _ s
  refine wpAny_bind (wpAny_setSeqItemAt g rfl ?_)
  first
    | exact wpAny_bind (wpAny_pure (wpAny_pure ⟨.none, rfl, wpAny_pure hQ⟩))
    | exact wpAny_pure ⟨.none, rfl, wpAny_pure hQ⟩


theorem look_mem {i : Int} : ∀ {l : List (Int × Int)}, i ∈ l.map (·.1) ↔ (l.lookup i).isSome = true
  | [] => by simp
  | (k, v) :: r => by
    rw [List.lookup_cons, List.map_cons, List.mem_cons, look_mem (l := r)]
    by_cases q : i = k
    · simp [q]
    · have q' : (i == k) = false := by simpa using q
      simp [q, q']
theorem putD_keys {i j : Int} : ∀ {l : List (Int × Int)}, (putD i j l).map (·.1) = if i ∈ l.map (·.1) then l.map (·.1) else l.map (·.1) ++ [i]
  | [] => rfl
  | (k, v) :: r => by
    unfold putD
    by_cases q : k = i
    · subst q; simp
    · have q' : i ≠ k := fun z => q z.symm
      have ih := putD_keys (i := i) (j := j) (l := r)
      simp only [q, if_false, List.map_cons, List.mem_cons, q', false_or, ih]
      split <;> simp
theorem putD_length {i j : Int} {l : List (Int × Int)} : (putD i j l).length = if i ∈ l.map (·.1) then l.length else l.length + 1 := by
  have h := congrArg List.length (putD_keys (i := i) (j := j) (l := l))
  rw [List.length_map] at h
  rw [h]
  split <;> simp
theorem map_same {i : Int} {w : Value} : ∀ {kvs : List (Int × Value)}, i ∉ kvs.map (·.1) → (kvs.map fun kv => if kv.1 = i then (kv.1, w) else kv) = kvs
  | [], _ => rfl
  | (k, v) :: r, h => by
    simp only [List.map_cons, List.mem_cons, not_or] at h
    rw [List.map_cons, map_same h.2, if_neg (fun z => h.1 z.symm)]
theorem drs_put {i j : Int} {t : Tok} {l : List (Int × Int)} {kvs : List (Int × Value)} (h : DRs l kvs) (hn : (l.map (·.1)).Nodup) : DRs (putD i j l) (stored kvs i (.int j t)) := by
  induction h with
  | nil => exact .cons .nil
  | @cons k v u l kvs h ih =>
    rw [List.map_cons, List.nodup_cons] at hn
    have ih := ih hn.2
    unfold putD stored
    unfold stored at ih
    by_cases q : k = i
    · subst q
      simp only [List.any_cons, decide_true, Bool.true_or, if_true, List.map_cons]
      rw [map_same (by rw [drs_keys h]; exact hn.1)]
      exact .cons h
    · simp only [q, if_false, List.any_cons, decide_false, Bool.false_or, List.map_cons]
      split
      · rename_i z; rw [if_pos z] at ih; exact .cons ih
      · rename_i z; rw [if_neg z] at ih; exact .cons ih

/-- a store into a dict of ints, with its count of changes -/
theorem dictSet_at {K : Type} [DecidableEq K] {knd : KeyKind Challenge.pw_rl0083_01 B.w K} {d : Addr} {kvs : List (K × Value)} {ep : Nat} {k : K} {key u : Value} {Q : Unit → Shared → Prop} (hkey : knd.is k key = true) (hm : s.heap.DictAt knd d kvs ep) (hsz : kvs.length ≤ sizeLine)
    (hQ : ∀ h', h'.DictAt knd d (stored kvs k u) (if k ∈ kvs.map (·.1) then ep else ep + 1) → Heap.SameBut d s.heap h' → Q () { s with heap := h', toks := s.toks + 1 }) : wpAny (MM B) A (dictSet d key u) Q never s := by
  refine hide fun hG hF => ?_
  obtain ⟨o, es, ho, hc, hd, hk, hp, hn⟩ := hm
  refine hF ?_
  clear hF hG
  have hes : es.size ≤ sizeLine := by
    have e1 := hp.length
    have e2 : es.toList.length = es.size := by simp
    omega
  have hidx : (es.findIdx? fun e => knd.is k e.key) = kvs.findIdx? fun kv => decide (kv.1 = k) := by
    rw [← hp.findIdx k]
    obtain ⟨l⟩ := es
    simp
  unfold dictSet
  try with_reducible refine wpAny_holding ?_
  refine wpAny_bind (knd.pyHash hkey ?_)
  unfold dictSetHashed
  try with_reducible refine wpAny_holding ?_
  refine wpAny_bind (wpAny_dictFind_of (s := { s with toks := s.toks + 1 }) hkey ho hd hk ?_)
  cases hi : es.findIdx? fun e => knd.is k e.key with
  | some i =>
    have hany := any_of_findIdx_some (hidx ▸ hi)
    have hmem : k ∈ kvs.map (·.1) := by
      obtain ⟨kv, h1, h2⟩ := List.any_eq_true.mp hany
      exact List.mem_map.mpr ⟨kv, h1, of_decide_eq_true h2⟩
    rw [if_pos hmem] at hQ
    refine wpAny_bind (wpAny_rule (wpAny_bind (wpAny_updateDict (s := { s with toks := s.toks + 1 }) ho hd (wpAny_point (hQ _ ⟨_, _, Heap.get?_update_self _ ho (Obj.isFreed_of_dict (Obj.data_mapDict hd _)), hc.mapDict _, Obj.data_mapDict hd _, hk.modify _ _, ?_, ?_⟩ (Heap.SameBut.update ..))))))
    · rw [stored, if_pos hany]
      have hl : (es.toList.findIdx? fun e => knd.is k e.key) = some i := by rw [← hi]; obtain ⟨l⟩ := es; simp
      have := hp.modify hn hl u
      obtain ⟨l⟩ := es
      simpa using this
    · rw [stored, if_pos hany, keys_map_store]; exact hn
  | none =>
    have hnot : k ∉ kvs.map (·.1) := not_mem_of_findIdx_none (hidx ▸ hi)
    have hany : ¬ (kvs.any fun kv => decide (kv.1 = k)) = true := fun z => by
      obtain ⟨kv, h1, h2⟩ := List.any_eq_true.mp z
      exact hnot (List.mem_map.mpr ⟨kv, h1, of_decide_eq_true h2⟩)
    rw [if_neg hnot] at hQ
    refine wpAny_bind (wpAny_rule (wpAny_updateDictKeys (hz := hes) (s := { s with toks := s.toks + 1 }) ho hd (hQ _ ⟨_, _, Heap.get?_update_self _ ho (Obj.isFreed_of_dict (Obj.data_mapDictKeys hd _)), hc.mapDictKeys _, Obj.data_mapDictKeys hd _, hk.push hkey _, ?_, ?_⟩ (Heap.SameBut.update ..))))
    · rw [stored, if_neg hany]
      have := hp.append hkey (knd.hash k) u
      obtain ⟨l⟩ := es
      simpa using this
    · rw [stored, if_neg hany, List.map_append, List.nodup_append]
      refine ⟨hn, by simp, fun a ha b hb e => ?_⟩
      simp only [List.map_cons, List.map_nil, List.mem_singleton] at hb
      subst hb
      exact hnot (e ▸ ha)
theorem set_dict_exact {K : Type} [DecidableEq K] {knd : KeyKind Challenge.pw_rl0083_01 B.w K} {d : Addr} {kvs : List (K × Value)} {ep : Nat} {k : K} {key u : Value} {Q : Unit → Shared → Prop} (hkey : knd.is k key = true) (hm : s.heap.DictAt knd d kvs ep) (hsz : kvs.length ≤ sizeLine)
    (hQ : ∀ h', h'.DictAt knd d (stored kvs k u) (if k ∈ kvs.map (·.1) then ep else ep + 1) → Heap.SameBut d s.heap h' → Q () { s with heap := h', toks := s.toks + 1 }) : wpAny (MM B) A (setItem (.ref d) key u) Q never s := by
  have hT := hm.dictOf.typeIs
  unfold setItem
  try with_reducible refine wpAny_holding ?_
  refine wpAny_bind (wpAny_sequenceKey hT (by decide) ?_)
  refine wpAny_bind (wpAny_callSpecial?_slot (name := Str.ofString "__setitem__") hT slot_dict_setitem (wpAny_call_entry slot_dict_setitem hT entry_dict_setitem ?_ (args_dict_setitem _ _ _)))
  show wpAny _ _ (Builtin.Dict.notOrdered "__setitem__" ⟨[.ref d, key, u], []⟩ >>= _) _ _ s
  refine wpAny_bind (wpAny_notOrdered_dict hT ?_)
  show wpAny _ _ (dictSet d key u >>= _) _ _ s
  exact wpAny_bind (dictSet_at hkey hm hsz fun h' hm' hs' => wpAny_pure ⟨.none, rfl, wpAny_pure (hQ h' hm' hs')⟩)
end
end Mine
end
section
/-! Assignments. -/
namespace Mine
open PySem PySem.Spec PySem.Calls PyProof.Rows
set_option maxRecDepth 100000

section
variable {B : Bs} {n : Nat} {A : Around} {env : Env} {E : Evs} {N : Names} {l l' : AL} {ρ : List Addr} {s : Shared} {H H' : AH} {v : AV}
theorem vrs_set {ρ : List Addr} {a : AV} {u : Value} (r : VR B ρ a u) : ∀ {x : List AV} {vs : List Value}, VRs B ρ x vs → ∀ i, VRs B ρ (x.set i a) (vs.set i u)
  | _, _, .nil, _ => .nil
  | _, _, .cons _ t, 0 => .cons r t
  | _, _, .cons h t, i + 1 => .cons h (vrs_set r t i)
/-- what holds behind a store -/
inductive SP (B : Bs) (env : Env) (l' : AL) (H' : AH) (ρ : List Addr) (s : Shared) (w : Unit) (s' : Shared) : Prop
  | mk (ρ' : List Addr) (x : Ext ρ (own env) s ρ' s') (F : Fm B env ρ' l' s'.heap) (S : St B ρ' H' s'.heap)
theorem set_list_ok {k : Nat} {x : List AV} {a : Addr} {j : Int} {t : Tok} {u : Value} (S : St B ρ H s.heap) (hl : H[k]? = some (.list x)) (ha : ρ[k]? = some a) (h0 : 0 ≤ j) (hj : j.toNat < x.length) (hx : small j = true) (r : VR B ρ v u) :
    wpAny (MM B) A (setItem (.ref a) (.int j t) u) (fun _ s' => Ext ρ noO s ρ s' ∧ St B ρ (H.set k (.list (x.set j.toNat v))) s'.heap) never s := by
  refine hide fun hG hF => ?_
  obtain ⟨o, g, vs, m, rfl, rs⟩ := S.at_ hl ha
  refine hF ?_
  clear hF hG
  have hlen := rs.length
  have hz := small_of hx
  refine set_list_exact g h0 (by omega) (by omega) ?_
  have g' := IsL.update (h := s.heap) g (fun xs => xs.setIfInBounds j.toNat u)
  refine ⟨Ext.upd (tk := s.toks) (List.mem_of_getElem? ha) (Heap.SameBut.update ..) g', S.set ha (Heap.SameBut.update ..) g' ⟨vs.set j.toNat u, (if (vs.toArray.setIfInBounds j.toNat u).size == vs.toArray.size then m else m + 1), ?_, vrs_set r rs _⟩⟩
  congr 2
  apply Array.toList_inj.mp
  simp
theorem set_dict_ok {k : Nat} {x : List (Int × Int)} {a : Addr} {i j : Int} {t t' : Tok} (G : Gd B) (S : St B ρ H s.heap) (hl : H[k]? = some (.dict x)) (ha : ρ[k]? = some a) (hx : sizeOk (x.length + 1) = true) :
    wpAny (MM B) A (setItem (.ref a) (.int i t) (.int j t')) (fun _ s' => Ext ρ noO s ρ s' ∧ St B ρ (H.set k (.dict (putD i j x))) s'.heap) never s := by
  obtain ⟨_, kvs, hd, r⟩ := dict_at' G S hl ha
  have hz := sizeOk_of hx
  have hk := drs_keys r
  have hlen : kvs.length = x.length := by simpa using congrArg List.length hk
  refine hide fun hG hF => ?_
  obtain ⟨_, _, _, _, _, _, _, hn⟩ := id hd
  refine hF ?_
  clear hF hG
  refine set_dict_exact (knd := intKind Challenge.pw_rl0083_01 B.w) (k := i) (intKind_is _ _ i t) hd (by rw [hlen, sizeLine_eq]; omega) fun h' hd' hs' => ?_
  refine hide fun hG hF => ?_
  obtain ⟨o', es', g', hc', hdat, hk', hp', hn'⟩ := hd'
  refine hF ?_
  clear hF hG
  refine ⟨Ext.upd (List.mem_of_getElem? ha) hs' g', S.set ha hs' g' ⟨es', _, hc', ?_, hk', hp', drs_put r (by rw [← hk]; exact hn), ?_⟩⟩
  · rw [hdat, putD_length, hk]
  · rw [putD_keys]
    rw [hk] at hn
    split
    · exact hn
    · rename_i q
      rw [List.nodup_append]
      refine ⟨hn, by simp, fun a ha b hb e => ?_⟩
      rw [List.mem_singleton] at hb
      subst hb
      exact q (e ▸ ha)

theorem assignT2_ok {k : Nat} {pos : Pos} {y1 y2 : Str} {p1 p2 : Pos} {a : Addr} {nn' : Nat} {x1 x2 : AV} (ft : A.handled = none) (hN : env.scope.names = N) (ht : tupAt H k = some [x1, x2]) (ha : ρ[k]? = some a) (hx : (isVar N y1 && isVar N y2) = true) (F : Fm B env ρ l s.heap) (S : St B ρ H s.heap) :
    wpAny (MM B) A (assign (.Tuple [.Name y1 p1, .Name y2 p2] nn' pos) env (.ref a)) (SP B env (put (put l y1 x1) y2 x2) H ρ s) never s := by
  rw [Bool.and_eq_true] at hx
  refine hide fun hG hF => ?_
  obtain ⟨vs, hT, gT, rs⟩ := tup_at S ht ha
  obtain ⟨u1, u2, rfl, r1, r2⟩ := rs.two
  refine hF ?_
  clear hF hG
  refine wpAny_mono (bindT_ok (N := N) (x := [x1, x2]) (l₁ := put (put l y1 x1) y2 x2) ft hN ?_ F S ⟨a, u1, u2, rfl, ⟨_, gT, rfl, hT, rfl⟩, r1, r2⟩) (fun _ s' q => (let ⟨a, b, c⟩ := q; ⟨ρ, a, b, c⟩)) fun _ _ z => z
  show (if (isVar N y1 && isVar N y2) = true then some (put (put l y1 x1) y2 x2) else none) = _
  rw [hx.1, hx.2]; rfl
theorem assignT3_ok {k : Nat} {pos : Pos} {y1 y2 y3 : Str} {p1 p2 p3 : Pos} {a : Addr} {nn' : Nat} {x1 x2 x3 : AV} (ft : A.handled = none) (hN : env.scope.names = N) (ht : tupAt H k = some [x1, x2, x3]) (ha : ρ[k]? = some a) (hx : (isVar N y1 && isVar N y2 && isVar N y3) = true) (F : Fm B env ρ l s.heap) (S : St B ρ H s.heap) :
    wpAny (MM B) A (assign (.Tuple [.Name y1 p1, .Name y2 p2, .Name y3 p3] nn' pos) env (.ref a)) (SP B env (put (put (put l y1 x1) y2 x2) y3 x3) H ρ s) never s := by
  simp only [Bool.and_eq_true] at hx
  subst hN
  obtain ⟨vs, hT, gT, rs⟩ := tup_at S ht ha
  cases rs with
  | @cons _ u1 _ _ r1 rs =>
  obtain ⟨u2, u3, rfl, r2, r3⟩ := rs.two
  rw [arm_assign_Tuple]
  refine wpAny_bind (wpAny_standAt (wpAny_unpack_tuple (items := #[u1, u2, u3]) ft ⟨_, gT, rfl, hT, rfl⟩ rfl rfl fun h' he => ?_))
  have hk : ∀ b o, s.heap.get? b = some o → h'.get? b = some o := fun b o e => he b o (Nat.ne_of_lt (Heap.lt_size e)) e
  have e0 : Ext ρ (own env) s ρ { s with heap := h' } := Ext.keeps (tk := s.toks) hk
  show wpAny _ _ (do holding [u2, u3] (assign (.Name y1 p1) env u1); assignInOrder [assign (.Name y2 p2) env, assign (.Name y3 p3) env] [u2, u3]) _ _ _
  refine wpAny_bind (wpAny_holding (wpAny_mono (store_ok (keeps_fm F hk) (S.keeps hk) hx.1.1 r1) (fun _ s₂ h₂ => ?_) fun _ _ z => z))
  obtain ⟨x2', F2, S2⟩ := h₂
  show wpAny _ _ (do holding [u3] (assign (.Name y2 p2) env u2); assignInOrder [assign (.Name y3 p3) env] [u3]) _ _ _
  refine wpAny_bind (wpAny_holding (wpAny_mono (store_ok F2 S2 hx.1.2 r2) (fun _ s₃ h₃ => ?_) fun _ _ z => z))
  obtain ⟨x3', F3, S3⟩ := h₃
  show wpAny _ _ (do holding [] (assign (.Name y3 p3) env u3); assignInOrder [] []) _ _ _
  refine wpAny_bind (wpAny_holding (wpAny_mono (store_ok F3 S3 hx.2 r3) (fun _ s₄ h₄ => ?_) fun _ _ z => z))
  obtain ⟨x4', F4, S4⟩ := h₄
  exact wpAny_pure ⟨ρ, ((e0.trans x2').trans x3').trans x4', F4, S4⟩
theorem assignTs_ok {k : Nat} {ts : List Expr} {pos : Pos} {a : Addr} {nn' : Nat} {xs : List AV} (ft : A.handled = none) (hN : env.scope.names = N) (ht : tupAt H k = some xs) (ha : ρ[k]? = some a) (h : assignT N ts xs l = some l') (F : Fm B env ρ l s.heap) (S : St B ρ H s.heap) :
    wpAny (MM B) A (assign (.Tuple ts nn' pos) env (.ref a)) (SP B env l' H ρ s) never s := by
  cases xs with
  | nil => exact nn h
  | cons x1 xs =>
    cases xs with
    | nil => exact nn h
    | cons x2 xs =>
      cases xs with
      | nil =>
        obtain ⟨e1, e2, rfl, h1⟩ := onTwo_inv h
        obtain ⟨y1, n1, h2⟩ := bind_inv h1
        obtain ⟨y2, n2, h3⟩ := bind_inv h2
        obtain ⟨hx, h4⟩ := if_inv h3
        refine res1 h4 ?_
        obtain ⟨p1, rfl⟩ := nameOf_inv n1
        obtain ⟨p2, rfl⟩ := nameOf_inv n2
        exact assignT2_ok ft hN ht ha hx F S
      | cons x3 xs =>
        obtain ⟨rfl, h0⟩ := if_inv h
        clear h
        cases ts with
        | nil => exact nn h0
        | cons e1 ts =>
          cases ts with
          | nil => exact nn h0
          | cons e2 ts =>
            cases ts with
            | nil => exact nn h0
            | cons e3 ts =>
              cases ts with
              | cons _ _ => exact nn h0
              | nil =>
                obtain ⟨y1, n1, h2⟩ := bind_inv h0
                obtain ⟨y2, n2, h3⟩ := bind_inv h2
                obtain ⟨y3, n3, h4⟩ := bind_inv h3
                obtain ⟨hx, h5⟩ := if_inv h4
                refine res1 h5 ?_
                obtain ⟨p1, rfl⟩ := nameOf_inv n1
                obtain ⟨p2, rfl⟩ := nameOf_inv n2
                obtain ⟨p3, rfl⟩ := nameOf_inv n3
                exact assignT3_ok ft hN ht ha hx F S
theorem assignA_ok {c f : Str} {cp pos : Pos} {u : Value} (io : IO B n E) (ft : Fit n A) (hN : env.scope.names = N) (hx : isVar N c = true) (hf : isField f = true) (h : assignA c f v l H = some (l', H')) (F : Fm B env ρ l s.heap) (S : St B ρ H s.heap) (r : VR B ρ v u) :
    wpAny (MM B) A (assign (.Attribute (.Name c cp) f pos) env u) (SP B env l' H' ρ s) never s := by
  obtain ⟨o, hk, h⟩ := bind_inv h
  obtain ⟨k, rfl, h⟩ := onRef_inv h
  obtain ⟨d, hd, h⟩ := bind_inv h
  obtain ⟨fs, hfs, h⟩ := bind_inv h
  obtain ⟨hlen, h⟩ := if_inv h
  refine res2 h ?_
  rw [arm_assign_Attribute]
  refine wpAny_bind (wpAny_holding (wpAny_Name (F.load (by rw [hN]; exact hx) hk fun ov ro => ?_) (isVar_debug hx)))
  obtain ⟨a, rfl, ha⟩ := ro.refI
  refine wpAny_bind (wpAny_standAt (wpAny_bind (wpAny_holding (wpAny_mono (io.set A ρ H s k d fs a v u f ft S hf hlen (instAt_inv hd) (attrsAt_inv hfs) ha r) (fun _ s₁ q => ?_) fun _ _ z => z))))
  exact wpAny_release ⟨ρ, q.1.any, F.move q.1, q.2⟩
theorem assignI_ok {k : Nat} {a : Addr} {j : Int} {t : Tok} {u : Value} (G : Gd B) (h : assignI k j v l H = some (l', H')) (F : Fm B env ρ l s.heap) (S : St B ρ H s.heap) (ha : ρ[k]? = some a) (r : VR B ρ v u) :
    wpAny (MM B) A (setItem (.ref a) (.int j t) u) (fun _ s' => l' = l ∧ Ext ρ noO s ρ s' ∧ St B ρ H' s'.heap) never s := by
  unfold assignI at h
  cases hl : H[k]? with
  | none => rw [hl] at h; exact nn h
  | some o =>
    rw [hl] at h
    cases o with
    | list x =>
      obtain ⟨hc, h⟩ := if_inv h
      refine res2 h ?_
      simp only [Bool.and_eq_true, decide_eq_true_eq] at hc
      exact wpAny_mono (set_list_ok S hl ha hc.1.1 hc.1.2 hc.2 r) (fun _ s₂ q => ⟨rfl, q⟩) fun _ _ z => z
    | dict x =>
      obtain ⟨y, rfl, h1⟩ := onInt_inv h
      obtain ⟨hc, h2⟩ := if_inv h1
      refine res2 h2 ?_
      obtain ⟨t', rfl⟩ := r.intI
      exact wpAny_mono (set_dict_ok G S hl ha hc) (fun _ s₂ q => ⟨rfl, q⟩) fun _ _ z => z
    | tup _ => exact nn h
    | inst _ => exact nn h
    | attrs _ => exact nn h
theorem assignS_ok {c : Str} {cp pos : Pos} {i : Expr} {k : Nat} {j : Int} {u : Value} {H₁ : AH} (G : Gd B) (g : GE B n E) (ft : Fit n A) (hN : env.scope.names = N) (hx : isVar N c = true) (hk : l c = some (.ref k)) (h1 : E.e i N l H = some (.int j, H₁)) (h : assignI k j v l H₁ = some (l', H')) (F : Fm B env ρ l s.heap) (S : St B ρ H s.heap) (r : VR B ρ v u) :
    wpAny (MM B) A (assign (.Subscript (.Name c cp) i pos) env u) (SP B env l' H' ρ s) never s := by
  rw [arm_assign_Subscript]
  refine wpAny_bind (wpAny_holding (wpAny_Name (F.load (by rw [hN]; exact hx) hk fun ov ro => ?_) (isVar_debug hx)))
  obtain ⟨a, rfl, ha⟩ := ro.refI
  refine wpAny_bind (wpAny_holding (wpAny_mono (g i N l H _ _ h1 A env ρ s ft hN F S) (fun iv s₁ p => ?_) fun _ _ z => z))
  obtain ⟨ρ₁, x1, F1, S1, r1⟩ := p
  obtain ⟨t, rfl⟩ := r1.intI
  refine wpAny_bind (wpAny_standAt (wpAny_bind (wpAny_holding (wpAny_mono (assignI_ok G h F1 S1 (pre_get x1.pre ha) (r.mono x1.pre)) (fun _ s₂ q => ?_) fun _ _ z => z))))
  obtain ⟨rfl, q1, q2⟩ := q
  exact wpAny_release ⟨ρ₁, (x1.trans q1).any, F1.move q1, q2⟩
theorem assign1_ok {tg : Expr} {u : Value} (G : Gd B) (g : Good B n E) (io : IO B n E) (ft : Fit n A) (hN : env.scope.names = N) (h : assign1 E N tg v l H = some (l', H')) (F : Fm B env ρ l s.heap) (S : St B ρ H s.heap) (r : VR B ρ v u) :
    wpAny (MM B) A (assign tg env u) (SP B env l' H' ρ s) never s := by
  revert h
  cases tg with
  | Name x p =>
    intro h
    obtain ⟨hx, h⟩ := if_inv h
    refine res2 h ?_
    exact wpAny_mono (store_ok F S (by rw [hN]; exact hx) r) (fun _ s' q => (let ⟨a, b, c⟩ := q; ⟨ρ, a, b, c⟩)) fun _ _ z => z
  | Tuple ts nn' pos =>
    intro h
    obtain ⟨k, rfl, h1⟩ := onRef_inv h
    obtain ⟨xs, ht, h2⟩ := bind_inv h1
    obtain ⟨l₂, h3, h4⟩ := map_inv h2
    cases h4
    obtain ⟨a, rfl, ha⟩ := r.refI
    exact assignTs_ok ft.handled hN ht ha h3 F S
  | Attribute o f pos =>
    intro h
    obtain ⟨c, hc, h1⟩ := bind_inv h
    obtain ⟨hx, h2⟩ := if_inv h1
    rw [Bool.and_eq_true] at hx
    obtain ⟨cp, rfl⟩ := nameOf_inv hc
    exact assignA_ok io ft hN hx.1 hx.2 h2 F S r
  | Subscript o i pos =>
    intro h
    obtain ⟨c, hc, h2⟩ := bind_inv h
    obtain ⟨hx, h3⟩ := if_inv h2
    obtain ⟨w, hk, h4⟩ := bind_inv h3
    obtain ⟨k, rfl, h5⟩ := onRef_inv h4
    obtain ⟨q, H₁, h1, h6⟩ := obind_inv h5
    obtain ⟨j, rfl, h7⟩ := onInt_inv h6
    obtain ⟨cp, rfl⟩ := nameOf_inv hc
    exact assignS_ok G g.e ft hN hx hk h1 h7 F S r
  | _ => exact nn
theorem SP.after {ρ₁ : List Addr} {s₁ s₂ : Shared} (x : Ext ρ (own env) s ρ₁ s₁) (h : SP B env l' H' ρ₁ s₁ () s₂) : SP B env l' H' ρ s () s₂ := by
  obtain ⟨ρ₂, a, b, c⟩ := h
  exact ⟨ρ₂, x.trans a, b, c⟩
theorem assignEach_ok : ∀ {ts : List Expr}, ts.all okTarget = true → (assignEach ts env).map (·.2) = ts.map fun t => assign t env
  | [], _ => rfl
  | t :: r, h => by
    simp only [List.all_cons, Bool.and_eq_true] at h
    have ih := assignEach_ok h.2
    rw [List.map_cons, ← ih]
    have h1 := h.1
    revert h1
    cases t <;> first | exact fun _ => rfl | exact ff
theorem assignN_ok {u : Value} (G : Gd B) (g : Good B n E) (io : IO B n E) (ft : Fit n A) (hN : env.scope.names = N) : ∀ {ts : List Expr} {l l' : AL} {H H' : AH} {ρ : List Addr} {s : Shared}, assignN E N v ts l H = some (l', H') → Fm B env ρ l s.heap → St B ρ H s.heap → VR B ρ v u →
    wpAny (MM B) A (assignAll u (ts.map fun t => assign t env)) (SP B env l' H' ρ s) never s
  | [], l, l', H, H', ρ, s, h, F, S, r => by
    refine res2 h ?_
    exact wpAny_pure ⟨ρ, .refl, F, S⟩
  | [t], l, l', H, H', ρ, s, h, F, S, r => by
    obtain ⟨l₁, H₁, h1, h⟩ := obind_inv h
    refine res2 h ?_
    exact assign1_ok G g io ft hN h1 F S r
  | t :: t' :: ts, l, l', H, H', ρ, s, h, F, S, r => by
    obtain ⟨l₁, H₁, h1, h⟩ := obind_inv h
    refine wpAny_bind (wpAny_holding (wpAny_mono (assign1_ok G g io ft hN h1 F S r) (fun _ s₁ q => ?_) fun _ _ z => z))
    obtain ⟨ρ₁, x1, F1, S1⟩ := q
    exact wpAny_mono (assignN_ok G g io ft hN h F1 S1 (r.mono x1.pre)) (fun _ s₂ q => q.after x1) fun _ _ z => z
theorem stores_hw {ts : List Expr} {e : Expr} (h : storesOk ts e = true) : swappedStores ts e env = pure none := by
  unfold storesOk at h
  simp only [Bool.and_eq_true, Bool.not_eq_true', Bool.and_eq_false_iff] at h
  obtain ⟨⟨_, h1⟩, h2⟩ := h
  revert h1 h2
  cases ts with
  | nil => exact fun _ _ => rfl
  | cons t r =>
    cases r with
    | cons _ _ => cases t <;> exact fun _ _ => rfl
    | nil =>
      cases t <;> first | exact fun _ _ => rfl | exact fun _ h => ff h | exact fun h => ff h | (cases e <;> first | exact fun _ _ => rfl | exact fun h _ => h.elim (fun q => ff q.symm) (fun q => ff q.symm) | exact fun _ h => h.elim (fun q => ff q.symm) (fun q => ff q.symm))
theorem assign_ok {ts : List Expr} {e : Expr} {p : Pos} {H₁ : AH} (G : Gd B) (g : Good B n E) (io : IO B n E) (ft : Fit n A) (hN : env.scope.names = N) (hc : storesOk ts e = true) (h : E.e e N l H = some (v, H₁)) (ha : assignN E N v ts l H₁ = some (l', H')) (F : Fm B env ρ l s.heap) (S : St B ρ H s.heap) :
    wpAny (MM B) A (exec (.Assign ts e p) env) (XP B env ρ s .next l' H') never s := by
  have hc' := hc
  unfold storesOk at hc'
  simp only [Bool.and_eq_true] at hc'
  refine wpAny_Assign_stores (wpAny_mono (g.e e N l H _ _ h A env ρ s ft hN F S) (fun u s₁ q => ?_) fun _ _ z => z) ?_ (stores_hw hc)
  · obtain ⟨ρ₁, x1, F1, S1, r1⟩ := q
    rw [assignEach_ok hc'.1.2]
    refine wpAny_mono (assignN_ok G g io ft hN ha F1 S1 r1) (fun _ s₂ q => ?_) fun _ _ z => z
    obtain ⟨ρ₂, x2, F2, S2⟩ := q
    exact ⟨ρ₂, x1.any.trans x2, F2, S2, .next⟩
  · cases ts with
    | nil => rfl
    | cons t r =>
      cases r with
      | nil => exact no_swap hc'.1.1 _ _
      | cons _ _ => rfl
end
end Mine
end
section
/-! Statements, and the step of the evaluator. -/
namespace Mine
open PySem PySem.Spec PySem.Calls PyProof.Rows
set_option maxRecDepth 100000

section
variable {B : Bs} {n : Nat} {A : Around} {env : Env} {E : Evs} {N : Names} {l l' : AL} {ρ : List Addr} {s : Shared} {H H' : AH} {v : AV}
theorem swap_is {x y : Str} {xp yp ap ap' ep tp : Pos} {o o' : Expr} {f f' : Str} {k k' : Nat} (hk : env.scope.kind = .function) (hx : env.kindOf x = some .local) (hy : env.kindOf y = some .local) (hne : y ≠ x) (hl : yp.line = xp.line) :
    swappedStores [.Tuple [.Name x xp, .Name y yp] k tp] (.Tuple [.Attribute o f ap, .Attribute o' f' ap'] k' ep) env = pure (some [x, y]) := by
  have hb : env.blockKind = .function := by unfold Env.blockKind; rw [hk]; rfl
  have e1 : (env.kindOf x == some NameKind.local) = true := by rw [hx]; rfl
  have e2 : (env.kindOf y == some NameKind.local) = true := by rw [hy]; rfl
  unfold swappedStores
  simp only [hb, List.filterMap_cons, List.filterMap_nil, e1, e2]
  have e3 : (xp.line == (Option.map (fun (x : Expr) => x.pos.line) [Expr.Name x xp, Expr.Name y yp].head?).getD 0) = true := beq_self_eq_true xp.line
  have e4 : (yp.line == (Option.map (fun (x : Expr) => x.pos.line) [Expr.Name x xp, Expr.Name y yp].head?).getD 0) = true := by rw [hl]; exact beq_self_eq_true xp.line
  simp only [e3, e4]
  have e5 : [x, y].eraseDups.length = 2 := by simp [List.eraseDups_cons, hne]
  have c1 : foldedForSure 8 (.Attribute o f ap) = false := rfl
  have c2 : constantsAlone 8 (.Attribute o f ap) = false := rfl
  simp [e5, c1, c2]

theorem bind_ok {x : Str} {a : AV} {u : Value} {Q : Unit → Shared → Prop} (F : Fm B env ρ l s.heap) (S : St B ρ H s.heap) (hx : isVar env.scope.names x = true) (r : VR B ρ a u)
    (hQ : ∀ s', Ext ρ (own env) s ρ s' → Fm B env ρ (put l x a) s'.heap → St B ρ H s'.heap → Q () s') : wpAny (MM B) A (bindName env x u) Q never s :=
  bindName_ (F.store S hx r fun h' tk e F' S' => hQ _ e F' S')
theorem isVar_local {N : Names} {x : Str} (h : N.lookup x = some .local) (hd : x ≠ "__debug__") : isVar N x = true := by
  unfold isVar
  rw [h]
  simpa using hd
theorem swap_ok {x y : Str} {xp yp ap ap' ep tp p : Pos} {o o' : Expr} {f f' : Str} {k k' q : Nat} {a b : AV} {H₁ : AH} (g : GE B n E) (ft : Fit n A) (hN : env.scope.names = N) (hx : N.lookup x = some .local) (hy : N.lookup y = some .local) (hne : y ≠ x) (hl : yp.line = xp.line)
    (hxv : isVar N x = true) (hyv : isVar N y = true)
    (h : E.e (.Tuple [.Attribute o f ap, .Attribute o' f' ap'] k' ep) N l H = some (.ref q, H₁)) (ht : tupAt H₁ q = some [a, b]) (F : Fm B env ρ l s.heap) (S : St B ρ H s.heap) :
    wpAny (MM B) A (exec (.Assign [.Tuple [.Name x xp, .Name y yp] k tp] (.Tuple [.Attribute o f ap, .Attribute o' f' ap'] k' ep) p) env) (XP B env ρ s .next (put (put l y b) x a) H₁) never s := by
  subst hN
  refine Assign_Tuple_swapped (names := [x, y]) (wpAny_mono (g _ _ l H _ _ h A env ρ s ft rfl F S) (fun u s₁ z => ?_) fun _ _ z => z) (hw := swap_is F.kind hx hy hne hl)
  refine hide fun hG hF => ?_
  obtain ⟨ρ₁, x1, F1, S1, r1⟩ := z
  obtain ⟨ad, rfl, ha⟩ := r1.refI
  obtain ⟨vs, m, gT, rs⟩ := tup_at S1 ht ha
  obtain ⟨u1, u2, rfl, r1, r2⟩ := rs.two
  refine hF ?_
  clear hF hG
  refine wpAny_unpackItems_tuple (items := #[u1, u2]) ft.handled ⟨_, gT, rfl, m, rfl⟩ fun h' he => ?_
  have hk : ∀ b o, s₁.heap.get? b = some o → h'.get? b = some o := fun b o e => he b o (Nat.ne_of_lt (Heap.lt_size e)) e
  have e0 : Ext ρ₁ (own env) s₁ ρ₁ { s₁ with heap := h' } := Ext.keeps (tk := s₁.toks) hk
  show wpAny _ _ (do holding [u1] (bindName env y u2); assignInOrder [bindName env x] [u1]) _ _ _
  refine wpAny_bind (wpAny_holding (bind_ok (keeps_fm F1 hk) (S1.keeps hk) hyv r2 fun s₂ x2 F2 S2 => ?_))
  show wpAny _ _ (do holding [] (bindName env x u1); assignInOrder [] []) _ _ _
  refine wpAny_bind (wpAny_holding (bind_ok F2 S2 hxv r1 fun s₃ x3 F3 S3 => ?_))
  exact wpAny_pure ⟨ρ₁, ((x1.any.trans e0).trans x2).trans x3, F3, S3, .next⟩

theorem exAsgn_ok {ts : List Expr} {e : Expr} {p : Pos} {f : AF} (G : Gd B) (g : Good B n E) (io : IO B n E) (gi : E.gen = true → GI B n) (ft : Fit n A) (hN : env.scope.names = N) (h : exAsgn E ts e N l H = some (f, l', H')) (F : Fm B env ρ l s.heap) (S : St B ρ H s.heap) :
    wpAny (MM B) A (exec (.Assign ts e p) env) (XP B env ρ s f l' H') never s := by
  unfold exAsgn at h
  cases hc : ncompParts ts e with
  | some q =>
    obtain ⟨x, elt, gc, sc⟩ := q
    rw [hc] at h
    obtain ⟨hx, h1⟩ := if_inv h
    obtain ⟨v, H₁, h2, h3⟩ := obind_inv h1
    refine res3 h3 ?_
    obtain ⟨t, rfl, h4⟩ := onOne_inv hc
    obtain ⟨x', h5, h6⟩ := bind_inv h4
    obtain ⟨q, h7, h8⟩ := map_inv h6
    cases h8
    obtain ⟨xp, rfl⟩ := nameOf_inv h5
    obtain ⟨ep, rfl⟩ := compOf_inv h7
    exact assign_comp_ok G g.e gi ft hN hx h2 F S
  | none =>
    rw [hc] at h
    dsimp only at h
    clear hc
    cases hs : swapParts ts e with
    | some q =>
      obtain ⟨x, y, q⟩ := q
      rw [hs] at h
      refine hide fun hG hF => ?_
      obtain ⟨hc, h1⟩ := if_inv h
      obtain ⟨v, H₁, h2, h3⟩ := obind_inv h1
      refine hF ?_
      clear hF hG
      clear h h1
      refine hide fun hG hF => ?_
      obtain ⟨k, rfl, h4⟩ := onRef_inv h3
      obtain ⟨xs, ht, h5⟩ := bind_inv h4
      obtain ⟨a, b, rfl, h6⟩ := onTwo_inv h5
      refine hF ?_
      clear hF hG
      clear h3 h4 h5
      refine res3 h6 ?_
      cases swapParts_inv hs
      clear hs
      exact swap_ok g.e ft hN hc.1 hc.2.1 hc.2.2.1 (of_decide_eq_true hc.2.2.2.1) hc.2.2.2.2.1 hc.2.2.2.2.2 h2 ht F S
    | none =>
      rw [hs] at h
      obtain ⟨hc, h1⟩ := if_inv h
      obtain ⟨v, H₁, h2, h3⟩ := obind_inv h1
      obtain ⟨l₁, H₂, h4, h5⟩ := obind_inv h3
      refine res3 h5 ?_
      exact assign_ok G g io ft hN hc h2 h4 F S
theorem augV_ok {x : Str} {xp p : Pos} {op : Operator} {e : Expr} {a b : Int} {f : AF} {H₁ : AH} (g : GE B n E) (ft : Fit n A) (hN : env.scope.names = N) (hx : isVar N x = true) (ha : l x = some (.int a)) (h1 : E.e e N l H = some (.int b, H₁)) (h : augV op x a b l H₁ = some (f, l', H')) (F : Fm B env ρ l s.heap) (S : St B ρ H s.heap) :
    wpAny (MM B) A (exec (.AugAssign (.Name x xp) op e p) env) (XP B env ρ s f l' H') never s := by
  unfold augV at h
  by_cases q : op = .Add
  · rw [if_pos q] at h
    refine res3 h ?_
    exact aug_ok g ft hN hx ha h1 F S (.inl ⟨q, rfl⟩)
  · rw [if_neg q] at h
    obtain ⟨q, h2⟩ := if_inv h
    refine res3 h2 ?_
    exact aug_ok g ft hN hx ha h1 F S (.inr ⟨q, rfl⟩)
theorem exS_ok {st : Stmt} {f : AF} (G : Gd B) (g : Good B n E) (io : IO B n E) (gi : E.gen = true → GI B n) (ft : Fit n A) (hN : env.scope.names = N) (h : exS E st N l H = some (f, l', H')) (F : Fm B env ρ l s.heap) (S : St B ρ H s.heap) :
    wpAny (MM B) A (exec st env) (XP B env ρ s f l' H') never s := by
  revert h
  cases st with
  | Expr e p =>
    intro h
    obtain ⟨hc, h⟩ := if_inv h
    obtain ⟨v, H₁, h1, h⟩ := obind_inv h
    refine res3 h ?_
    exact expr_ok g.e ft hN h1 hc F S
  | Break p =>
    intro h
    refine res3 h ?_
    exact wpAny_Break ⟨ρ, .refl, F, S, .brk⟩
  | Return o p =>
    intro h
    obtain ⟨e, rfl, h1⟩ := bind_inv h
    obtain ⟨v, H₁, h2, h3⟩ := obind_inv h1
    refine res3 h3 ?_
    exact return_ok g.e ft hN h2 F S
  | Assign ts e p => exact fun h => exAsgn_ok G g io gi ft hN h F S
  | AugAssign t op e p =>
    intro h
    obtain ⟨x, hn, h1⟩ := bind_inv h
    obtain ⟨hx, h2⟩ := if_inv h1
    obtain ⟨w, ha, h3⟩ := bind_inv h2
    obtain ⟨a, rfl, h4⟩ := onInt_inv h3
    obtain ⟨v, H₁, h5, h6⟩ := obind_inv h4
    obtain ⟨b, rfl, h7⟩ := onInt_inv h6
    obtain ⟨xp, rfl⟩ := nameOf_inv hn
    exact augV_ok g.e ft hN hx ha h5 h7 F S
  | If t a b p =>
    intro h
    obtain ⟨q, H₁, h1, h⟩ := obind_inv h
    cases q with
    | true => exact if_ok (c := true) G g ft hN h1 h F S
    | false => exact if_ok (c := false) G g ft hN h1 h F S
  | For tg it body els p =>
    intro h
    obtain ⟨he, h1⟩ := if_inv h
    obtain rfl := nil_of he
    cases hi : items E N l H tg it with
    | none => rw [hi] at h1; exact nn h1
    | some q =>
      obtain ⟨vs, gd, H₁⟩ := q
      rw [hi] at h1
      exact forS_ok G g gi ft hN hi h1 F S
  | _ => exact nn
theorem Known_next {ns : List Int} : (∀ f as H r, (next ns E).call f as H = some r → isDef f = true) ∧ (∀ f as H r, (next ns E).meth f as H = some r → isMeth f = true) := by
  refine ⟨fun f as H r h => ?_, fun f as H r h => ?_⟩ <;>
  · simp only [next] at h
    split at h
    · assumption
    · exact nn h
theorem Good_bot {b : Bool} : Good B n (bot b) := ⟨fun _ _ _ _ _ _ h => (by exact nn h), fun _ _ _ _ _ _ _ h => (by exact nn h), fun _ _ _ _ _ _ h => (by exact nn h), fun _ _ _ _ _ _ h => (by exact nn h)⟩
theorem Good_next (G : Gd B) (g : Good B n E) (io : IO B n E) (gi : E.gen = true → GI B n) : Good B (n + 1) (next B.ns E) where
  e := fun e N l H v H' h A env ρ s ft hN F S => evE_ok G g io gi ft hN h F S
  x := fun b N l H f l' H' h A env ρ s ft hN F S => exL_ok (stm := fun _ => True) (E := E) (n := n) (fun st N l H f l' H' _ h A env ρ s ft hN F S => exS_ok G g io gi ft hN h F S) (fun _ => trivial) h (ft.mono (Nat.le_succ n)) hN F S
  c := fun f a as H v H' h hf A ρ s us ft S r => by
    simp only [next] at h
    split at h
    · exact def_call G g.x ft (fun ps b N hd => G.fn f a ps b N hf hd) h S r
    · exact nn h
  m := fun f a as H v H' h hf A ρ s us ft S r => by
    simp only [next] at h
    split at h
    · exact def_call G g.x ft (fun ps b N hd => G.mt f a ps b N hf hd) h S r
    · exact nn h
end
end Mine
end
section
/-! Instances. -/
namespace Mine
open PySem PySem.Spec PySem.Calls PyProof.Rows
set_option maxRecDepth 100000

theorem isField_cases {f : Str} (h : isField f = true) : f = "raw" ∨ f = "n" ∨ f = "nt" ∨ f = "norm" ∨ f = "is_simple" := by
  unfold isField at h
  simpa using h
theorem KF.field {K : W.Frag} (k : KF K) {f : Str} (h : isField f = true) : W.findIn K (.ref 83) f = some none := by
  have q := k.fld
  simp only [List.all_cons, List.all_nil, Bool.and_true, Bool.and_eq_true, beq_iff_eq] at q
  rcases isField_cases h with rfl | rfl | rfl | rfl | rfl
  · exact q.1
  · exact q.2.1
  · exact q.2.2.1
  · exact q.2.2.2.1
  · exact q.2.2.2.2
theorem maddr_cases {f : Str} {a : Addr} (h : maddr f = some a) : (f = "__init__" ∧ a = 38) ∨ (f = "longest_run_of_spaces" ∧ a = 45) ∨ (f = "indent_level" ∧ a = 52) ∨ (f = "not_equal_witness" ∧ a = 66) := by
  have q := tab_mem h
  simpa [mTab] using q
theorem KF.meth {K : W.Frag} (k : KF K) {f : Str} {a : Addr} (h : maddr f = some a) : W.findIn K (.ref 83) f = some (some (.ref a)) ∧ W.typeIn K (.ref a) = some (.type "function") := by
  have q := k.mth
  have r := k.fn
  simp only [List.all_cons, List.all_nil, Bool.and_true, Bool.and_eq_true, beq_iff_eq] at q r
  rcases maddr_cases h with ⟨rfl, rfl⟩ | ⟨rfl, rfl⟩ | ⟨rfl, rfl⟩ | ⟨rfl, rfl⟩
  · exact ⟨q.1, r.1⟩
  · exact ⟨q.2.1, r.2.1⟩
  · exact ⟨q.2.2.1, r.2.2.1⟩
  · exact ⟨q.2.2.2, r.2.2.2⟩
theorem field_meth {f : Str} {a : Addr} (h : maddr f = some a) : isField f = false := by
  rcases maddr_cases h with ⟨rfl, rfl⟩ | ⟨rfl, rfl⟩ | ⟨rfl, rfl⟩ | ⟨rfl, rfl⟩ <;> decide +kernel

section
variable {B : Bs} {n : Nat} {A : Around} {env : Env} {E : Evs} {N : Names} {l l' : AL} {ρ : List Addr} {s : Shared} {H H' : AH} {v : AV}
theorem handed {u : Value} (r : VR B ρ v u) : W.handedIn u = true := by cases r <;> rfl
theorem ars_look {fs : List (Str × AV)} {es : List DictEntry} {f : Str} (r : ARs B ρ fs es) : (∀ w, fs.lookup f = some w → ∃ u, W.getL f es = some (some u) ∧ VR B ρ w u) ∧ (fs.lookup f = none → W.getL f es = some none) := by
  have key : (∀ w, fs.lookup f = some w → ∃ e, es.find? (·.key.isStr f) = some e ∧ VR B ρ w e.val) ∧ (fs.lookup f = none → es.find? (·.key.isStr f) = none) ∧ es.any (·.refKey) = false := by
    induction r with
    | nil => exact ⟨fun w h => by simp at h, fun _ => rfl, rfl⟩
    | @cons x a u t fs es ra _ ih =>
      obtain ⟨h1, h2, h3⟩ := ih
      have hk : (Value.str x t).isStr f = (x == f) := rfl
      refine ⟨fun w h => ?_, fun h => ?_, ?_⟩
      · rw [List.lookup_cons] at h
        rw [List.find?_cons]
        by_cases q : f = x
        · subst q
          simp only [beq_self_eq_true] at h
          refine res1 h ?_
          rw [hk, beq_self_eq_true]
          exact ⟨_, rfl, ra⟩
        · have q1 : (f == x) = false := by simpa using q
          have q2 : (x == f) = false := by simpa using fun z => q z.symm
          simp only [q1] at h
          rw [hk, q2]
          exact h1 w h
      · rw [List.lookup_cons] at h
        rw [List.find?_cons]
        by_cases q : f = x
        · subst q; simp at h
        · have q1 : (f == x) = false := by simpa using q
          have q2 : (x == f) = false := by simpa using fun z => q z.symm
          simp only [q1] at h
          rw [hk, q2]
          exact h2 h
      · rw [List.any_cons, h3]; rfl
  obtain ⟨h1, h2, h3⟩ := key
  refine ⟨fun w h => ?_, fun h => ?_⟩
  · obtain ⟨e, e1, e2⟩ := h1 w h
    exact ⟨e.val, by unfold W.getL; rw [e1], e2⟩
  · unfold W.getL
    rw [h2 h, h3]; rfl
theorem inst_at {k d : Nat} {fs : List (Str × AV)} {a : Addr} (S : St B ρ H s.heap) (hk : H[k]? = some (.inst d)) (hd : H[d]? = some (.attrs fs)) (ha : ρ[k]? = some a) :
    ∃ da es m, ρ[d]? = some da ∧ W.InstAt s.heap a (W.instObj clsA da) clsA (some (W.dictOf es m)) ∧ ARs B ρ fs es ∧ fs.all (fun p => isField p.1) = true := by
  obtain ⟨o, g, da, hda, rfl⟩ := S.at_ hk ha
  obtain ⟨o', g', es, m, rfl, r, q⟩ := S.at_ hd hda
  exact ⟨da, es, m, hda, ⟨g, rfl, rfl, g'⟩, r, q⟩
theorem io_attr (G : Gd B) (ft : Fit n A) (S : St B ρ H s.heap) {w : AV} {f : Str} {u : Value} (hf : isField f = true) (h : attrOf v f H = some w) (r : VR B ρ v u) : wpAny (MM B) A (getAttr u f true) (CP B ρ s w H) never s := by
  obtain ⟨K, X, k⟩ := G.kf
  obtain ⟨j, rfl, h1⟩ := onRef_inv h
  obtain ⟨d, hj, h2⟩ := bind_inv h1
  obtain ⟨fs, hd, h3⟩ := bind_inv h2
  obtain ⟨a, rfl, ha⟩ := r.refI
  obtain ⟨da, es, m, hda, I, ra, _⟩ := inst_at S (instAt_inv hj) (attrsAt_inv hd) ha
  obtain ⟨u, e1, e2⟩ := (ars_look ra).1 w h3
  exact W.get_value (X.keeps S.keep) I (W.plainGet_of k.get).1 (W.findObj_own k.dict (k.field hf) rfl e1) (handed e2) (CP.tok S e2)
theorem io_meth (G : Gd B) (S : St B ρ H s.heap) {k d : Nat} {a fa : Addr} {f : Str} {pl : Sem Bool} (hk : H[k]? = some (.inst d)) (hat : isAttrs H d = true) (ha : ρ[k]? = some a) (hf : maddr f = some fa) :
    wpAny (MM B) A (getMethod (.ref a) f pl) (fun fx s' => fx = (.ref fa, [.ref a]) ∧ s' = s) never s := by
  obtain ⟨K, X, kf⟩ := G.kf
  unfold isAttrs at hat
  split at hat
  · rename_i fs hd
    refine hide fun hG hF => ?_
    obtain ⟨da, es, m, hda, I, ra, hall⟩ := inst_at S hk hd ha
    obtain ⟨m1, m2⟩ := kf.meth hf
    refine hF ?_
    clear hF hG
    have hno : fs.lookup f = none := by
      cases q : fs.lookup f with
      | none => rfl
      | some w =>
        have := List.all_eq_true.mp hall _ (mem_of_lookup q)
        rw [field_meth hf] at this; cases this
    refine W.method_fn (X.keeps S.keep) I (W.plainGet_of kf.get).1 (W.plainGet_of kf.get).2 m1 m2 ?_ ⟨rfl, rfl⟩
    show (W.lookIn f (W.dictOf es m)).map _ = _
    rw [W.lookIn_dict, (ars_look ra).2 hno]; rfl
  · exact ff hat
theorem cls_any {K : W.Frag} {x f : Str} (h : (W.findCls K (.ref 83) (.type "type") f).any (fun g => match g with | .val (.str y _) => y == x | _ => false) = true) : ∃ t, W.findCls K (.ref 83) (.type "type") f = some (.val (.str x t)) := by
  obtain ⟨g, h1, h2⟩ := W.any_some h
  rw [h1]
  split at h2
  · rename_i y t
    rw [beq_iff_eq] at h2
    subst h2
    exact ⟨t, rfl⟩
  · exact ff h2
theorem io_cls (G : Gd B) (S : St B ρ H s.heap) {x f : Str} (h : ∀ K, KF K → ∃ t, W.findCls K (.ref 83) (.type "type") f = some (.val (.str x t))) : wpAny (MM B) A (getAttr (.ref 83) f true) (CP B ρ s (.str x) H) never s := by
  obtain ⟨K, X, k⟩ := G.kf
  obtain ⟨t, e⟩ := h K k
  exact W.cls_value (X.keeps S.keep) k.reads e rfl (CP.tok S (.str x t))

theorem ars_set {fs : List (Str × AV)} {es : List DictEntry} {f : Str} {u : Value} {t : Tok} (r : ARs B ρ fs es) (ru : VR B ρ v u) : ARs B ρ (Mine.setAttr f v fs) (W.putL f (PyData.keyHash B.w.params f) (.str f t) u es) := by
  induction r with
  | nil => exact .cons ru .nil
  | @cons x a w t' fs es ra rs ih =>
    unfold Mine.setAttr W.putL
    have hk : (Value.str x t').isStr f = (x == f) := rfl
    by_cases q : x = f
    · subst q
      simp only [if_true, hk, beq_self_eq_true]
      exact .cons ru rs
    · have q2 : (x == f) = false := by simpa using q
      simp only [if_neg q, hk, q2]
      exact .cons ra ih
theorem ars_length {fs : List (Str × AV)} {es : List DictEntry} (r : ARs B ρ fs es) : es.length = fs.length := by
  induction r with
  | nil => rfl
  | cons _ _ ih => simp [ih]
theorem ars_norefkey {fs : List (Str × AV)} {es : List DictEntry} (r : ARs B ρ fs es) : es.any (·.refKey) = false := by
  induction r with
  | nil => rfl
  | cons _ _ ih => rw [List.any_cons, ih]; rfl
theorem setAttr_length {f : Str} : ∀ {fs : List (Str × AV)}, (Mine.setAttr f v fs).length ≤ fs.length + 1
  | [] => Nat.le_refl _
  | p :: r => by
    unfold Mine.setAttr
    split
    · simp
    · have := setAttr_length (f := f) (fs := r)
      simp only [List.length_cons]; omega
theorem setAttr_all {f : Str} (hf : isField f = true) : ∀ {fs : List (Str × AV)}, fs.all (fun p => isField p.1) = true → (Mine.setAttr f v fs).all (fun p => isField p.1) = true
  | [], _ => by show (isField f && true) = true; rw [hf]; rfl
  | p :: r, h => by
    rw [List.all_cons, Bool.and_eq_true] at h
    unfold Mine.setAttr
    split
    · rw [List.all_cons, Bool.and_eq_true]; exact ⟨hf, h.2⟩
    · rw [List.all_cons, Bool.and_eq_true]; exact ⟨h.1, setAttr_all hf h.2⟩
theorem dict_freed (es : List DictEntry) (m : Nat) : (W.dictOf es m).isFreed = false := rfl
theorem osa_exact {K : W.Frag} {ox : Obj} {x C dx : Addr} {es es' : List DictEntry} {m m' : Nat} {name : Str} {tk : Tok} {u : Value} {R : Result → Shared → Prop} (X : K.In s.heap) (I : W.InstAt s.heap x ox C (some (W.dictOf es m))) (hd : ox.dict = some dx)
    (hp : W.plainOver K C = true) (ht : W.takerIn K C name = some none) (hh : W.hasDictIn K C = true) (hno : es.any (·.refKey) = false) (e : Obj.putName name (PyData.keyHash B.w.params name) (.str name s.toks) u (W.dictOf es m) = W.dictOf es' m') (hz : es'.length ≤ 1000)
    (h : ∀ h', Heap.SameBut dx s.heap h' → h'.get? dx = some (W.dictOf es' m') → R (.ok (.ret .none)) { s with heap := h', toks := s.toks + 1 }) :
    codeAny (MM B) A (.call (.builtin "object.__setattr__") ⟨[.ref x, .str name tk, u], []⟩) R s := by
  refine W.osa_open X I hp ht fun b => ?_
  refine hide fun hG hF => ?_
  obtain ⟨cd, hc, hd'⟩ := W.any_some hh
  obtain ⟨hx, hcl, hn, D⟩ := I
  obtain ⟨oc, odi, oda, osl⟩ := ox
  refine hF ?_
  clear hF hG
  dsimp only at hcl hd D
  subst hcl hd
  dsimp only at D
  have D' : (s.heap.update dx (Obj.putName name (PyData.keyHash B.w.params name) (.str name s.toks) u)).get? dx = some (W.dictOf es' m') := by
    rw [← e]
    exact Heap.get?_update_self _ D (by rw [e]; rfl)
  refine wpAny_bind (wpAny_pure (wpAny_bind (wpAny_bind (wpAny_loadPart hx (wpAny_bind ((W.looks_clsIn X hc).here ?_))))))
  rw [hd']
  refine wpAny_pure (a := some dx) (wpAny_bind (wpAny_pure (wpAny_bind ?_)))
  unfold nsSet
  refine wpAny_bind (wpAny_bind (wpAny_askSetting (wpAny_pure (wpAny_bind (wpAny_mkText (wpAny_bind (wpAny_loadPart D ?_)))))))
  have c : (!es.toArray.any (·.key.isStr name) && es.toArray.any (·.refKey)) = false := by
    have : es.toArray.any (·.refKey) = false := by rw [← Array.any_toList]; exact hno
    rw [this, Bool.and_false]
  show wpAny _ _ (if aRefKeyMayBeTheName name es.toArray = true then _ else _) _ _ _
  rw [aRefKeyMayBeTheName_at, c]
  refine wpAny_updatePart D ?_
  refine wpAny_bind (wpAny_lookBehind D' (pastItsLine_dict (by rw [List.size_toArray, sizeLine_eq]; omega)) ?_)
  exact wpAny_pure (h _ (Heap.SameBut.update ..) D')
theorem io_set (G : Gd B) (S : St B ρ H s.heap) {k d : Nat} {fs : List (Str × AV)} {a : Addr} {f : Str} {u : Value} (hf : isField f = true) (hlen : fs.length < 100) (hk : H[k]? = some (.inst d)) (hd : H[d]? = some (.attrs fs)) (ha : ρ[k]? = some a) (ru : VR B ρ v u) :
    wpAny (MM B) A (PySem.setAttr (.ref a) f u) (fun _ s' => Ext ρ noO s ρ s' ∧ St B ρ (H.set d (.attrs (Mine.setAttr f v fs))) s'.heap) never s := by
  refine hide fun hG hF => ?_
  obtain ⟨K, X, kf⟩ := G.kf
  obtain ⟨da, es, m, hda, I, ra, hall⟩ := inst_at S hk hd ha
  refine hF ?_
  clear hF hG
  have X' := X.keeps S.keep
  refine W.set_plain X' I kf.set (osa_exact (s := { s with toks := s.toks + 1 }) X' I rfl kf.over ?_ kf.dict (ars_norefkey ra) (W.putName_dict ..) ?_ fun h' hs' g' => ?_)
  · unfold W.takerIn
    rw [kf.field hf]; rfl
  · rw [ars_length (ars_set (t := s.toks + 1) ra ru)]
    have := setAttr_length (v := v) (f := f) (fs := fs)
    omega
  · exact ⟨Ext.upd (tk := s.toks + 2) (List.mem_of_getElem? hda) hs' g', S.set hda hs' g' ⟨_, _, rfl, ars_set ra ru, setAttr_all hf hall⟩⟩

theorem under_units {c : Addr} {us : List Value} : (A.under (.builtin "type.__call__" ⟨.ref c :: us, []⟩)).units ≤ A.units + 4 := by
  show A.units + (Code.builtin "type.__call__" ⟨.ref c :: us, []⟩).cUnits ≤ _
  have : (Code.builtin "type.__call__" ⟨.ref c :: us, []⟩).cUnits = 1 := rfl
  omega
theorem fit_under {c : Addr} {us : List Value} (h : Fit (n + 1) A) : Fit n (A.under (.builtin "type.__call__" ⟨.ref c :: us, []⟩)) := ⟨h.handled, by have := h.depth; rw [depth_under_make]; omega, by have := h.units; have := under_units (A := A) (c := c) (us := us); omega⟩
theorem io_make (G : Gd B) (g : Good B n E) {pos : Pos} {H₁ H₂ : AH} {es : List Expr} (ft1 : Fit (n + 1) A) (hN : env.scope.names = N) (F : Fm B env ρ l s.heap) (S : St B ρ H s.heap) (he : evs E N l es H = some ([v], H₁))
    (hm : E.meth "__init__" [.ref (H₁.length + 1), v] (H₁ ++ [.attrs [], .inst H₁.length]) = some (.none, H₂)) :
    wpAny (MM B) A (callWith pos (.ref 83) [] (es.map fun e => (false, eval e env)) []) (EP B env l ρ s (.ref (H₁.length + 1)) H₂) never s := by
  obtain ⟨K, X, kf⟩ := G.kf
  refine W.callWith_of (P := fun h => K.In h) (by rw [List.any_map]; simp) (W.keeps_K kf.keep) (wpAny_mono (evalArgs_ok g.e (ft1.mono (Nat.le_succ n)) hN he F S) (fun a s' q => ?_) fun _ _ z => z)
  obtain ⟨hkw, ρ', x', F', S', r⟩ := q
  rw [hkw]
  obtain ⟨u, hu, ru⟩ := r.one
  rw [hu]
  have X' := X.keeps S'.keep
  refine ⟨X', ?_⟩
  have hi := kf.meth (f := "__init__") (a := 38) (by decide +kernel)
  refine wpAny_mono (Q := CP B ρ' s' (.ref (H₁.length + 1)) H₂) (call_back ?_) (fun z s₃ q => (EP.of F' q).after x') fun _ _ z => z
  refine hide fun hG hF => ?_
  obtain ⟨hh, gg, dd, tt, os⟩ := s'
  refine hF ?_
  clear hF hG
  refine W.make_core (W.makes_of X' kf.makes) (W.looks_findIn X' hi.1) (fun self => W.bind_fn X' self hi.2) (.inl rfl) ?_
  -- the new one
  have S1 : St B (ρ' ++ [hh.objs.size]) (H₁ ++ [.attrs []]) (hh.push W.emptyDict) := S'.alloc fun ρ'' hp => ⟨[], 0, rfl, .nil, rfl⟩
  have x1 : Ext ρ' noO ⟨hh, gg, dd, tt, os⟩ (ρ' ++ [hh.objs.size]) ⟨hh.push W.emptyDict, gg, dd, tt, os⟩ := Ext.push (s := ⟨hh, gg, dd, tt, os⟩) (tk := tt)
  have hd0 : (ρ' ++ [hh.objs.size])[H₁.length]? = some hh.objs.size := by
    rw [← S'.len, List.getElem?_append_right (Nat.le_refl _)]; simp
  have S2 : St B (ρ' ++ [hh.objs.size] ++ [(hh.push W.emptyDict).objs.size]) (H₁ ++ [.attrs []] ++ [.inst H₁.length]) ((hh.push W.emptyDict).push (W.instObj 83 hh.objs.size)) :=
    S1.alloc fun ρ'' hp => ⟨hh.objs.size, pre_get hp hd0, rfl⟩
  have x2 : Ext (ρ' ++ [hh.objs.size]) noO ⟨hh.push W.emptyDict, gg, dd, tt, os⟩ (ρ' ++ [hh.objs.size] ++ [(hh.push W.emptyDict).objs.size]) ⟨(hh.push W.emptyDict).push (W.instObj 83 hh.objs.size), gg, dd, tt, os⟩ := Ext.push (s := ⟨hh.push W.emptyDict, gg, dd, tt, os⟩) (tk := tt)
  have hH : H₁ ++ [.attrs [], .inst H₁.length] = H₁ ++ [.attrs []] ++ [.inst H₁.length] := by simp
  rw [hH] at hm
  have hsz : (hh.push W.emptyDict).objs.size = hh.objs.size + 1 := Heap.size_push ..
  rw [hsz] at S2 x2
  have hr : (ρ' ++ [hh.objs.size] ++ [hh.objs.size + 1])[H₁.length + 1]? = some (hh.objs.size + 1) := by
    have : (ρ' ++ [hh.objs.size]).length = H₁.length + 1 := by rw [List.length_append, S'.len]; rfl
    rw [← this, List.getElem?_append_right (Nat.le_refl _)]; simp
  have pre2 : ρ' <+: ρ' ++ [hh.objs.size] ++ [hh.objs.size + 1] := x1.pre.trans x2.pre
  refine codeAny_mono (g.m "__init__" 38 _ _ _ _ hm (by decide +kernel) _ _ ⟨(hh.push W.emptyDict).push (W.instObj 83 hh.objs.size), gg, dd, tt, os⟩ [.ref (hh.objs.size + 1), u] (fit_under ft1) S2 (.cons (.ref hr) (.cons (ru.mono pre2) .nil))) fun r s' z => ?_
  rcases r with e | (w | _ | _ | _) <;> first | exact z | exact z.elim | skip
  obtain ⟨ρ₃, x3, S3, r3⟩ := z
  cases r3
  exact ⟨rfl, ρ₃, (x1.trans x2).trans x3, S3, .ref (pre_get x3.pre hr)⟩
end

noncomputable def Known (E : Evs) : Prop := (∀ f as H r, E.call f as H = some r → isDef f = true) ∧ (∀ f as H r, E.meth f as H = some r → isMeth f = true)
theorem def_known {f : Str} (h : isDef f = true) : bval f = none ∧ ∃ fa, faddr f = some fa ∧ (defOf f topBody).isSome = true := by
  unfold isDef at h
  simp only [List.any_cons, List.any_nil, Bool.or_false, Bool.or_eq_true, decide_eq_true_eq] at h
  rcases h with rfl | rfl | rfl | rfl | rfl | rfl | rfl | rfl | rfl | rfl | rfl | rfl <;> exact ⟨by decide +kernel, _, rfl, by decide +kernel⟩
theorem meth_known {f : Str} (h : isMeth f = true) : ∃ fa, maddr f = some fa := by
  unfold isMeth at h
  simp only [List.any_cons, List.any_nil, Bool.or_false, Bool.or_eq_true, decide_eq_true_eq] at h
  rcases h with rfl | rfl | rfl | rfl
  · exact ⟨38, by decide +kernel⟩
  · exact ⟨45, by decide +kernel⟩
  · exact ⟨52, by decide +kernel⟩
  · exact ⟨66, by decide +kernel⟩
theorem io_ok {B : Bs} {n : Nat} {E : Evs} (G : Gd B) (g : Good B n E) (kn : Known E) : IO B n E where
  attr := fun A ρ H s v w f u ft S hf h r => io_attr G ft S hf h r
  set := fun A ρ H s k d fs a v u f ft S hf hl hk hd ha r => io_set G S hf hl hk hd ha r
  clsS := fun A ρ H s ft S => io_cls G S fun K k => cls_any k.clsS
  clsT := fun A ρ H s ft S => io_cls G S fun K k => cls_any k.clsT
  meth := fun A ρ H s k d a f fa pl ft S hk hat ha hf => io_meth G S hk hat ha hf
  fnm := fun f fa h => by
    have : (defOf f (classBody topBody)).isSome = true := by
      rcases maddr_cases h with ⟨rfl, _⟩ | ⟨rfl, _⟩ | ⟨rfl, _⟩ | ⟨rfl, _⟩ <;> decide +kernel
    obtain ⟨⟨ps, b, N⟩, hd⟩ := Option.isSome_iff_exists.mp this
    obtain ⟨o, fd, ho, hdt, _⟩ := G.mt f fa ps b N h hd
    exact ⟨o, fd, ho, hdt⟩
  known := fun f as H r h => meth_known (kn.2 f as H r h)
  knownC := fun f as H r h => by
    obtain ⟨h1, fa, h2, h3⟩ := def_known (kn.1 f as H r h)
    obtain ⟨⟨ps, b, N⟩, hd⟩ := Option.isSome_iff_exists.mp h3
    obtain ⟨o, fd, ho, hdt, _⟩ := G.fn f fa ps b N h2 hd
    exact ⟨h1, fa, h2, o, fd, ho, hdt⟩
  make := fun A env pos l N ρ H H₁ H₂ s es v ft hN F S h1 h2 => io_make G g ft hN F S h1 h2
end Mine
end
section
/-! The generator: pieces. -/
namespace Mine
open PySem PySem.Spec PySem.Calls PyProof.Rows
set_option maxRecDepth 100000

theorem Known_bot {b : Bool} : Known (bot b) := ⟨fun _ _ _ _ h => (by exact nn h), fun _ _ _ _ h => (by exact nn h)⟩
theorem ev_next (b : Bool) (ns : List Int) (n : Nat) : ev b ns (n + 1) = { next ns (ev b ns n) with gen := b && decide (5 ≤ n + 1) } := rfl
theorem Known_ev (b : Bool) (ns : List Int) : ∀ n, Known (ev b ns n)
  | 0 => Known_bot
  | n + 1 => Known_next (E := ev b ns n) (ns := ns)
theorem ev_gen (b : Bool) (ns : List Int) : ∀ n, (ev b ns n).gen = true → b = true ∧ 5 ≤ n
  | 0, h => by exact ff h
  | n + 1, h => by
    have h' : (b && decide (5 ≤ n + 1)) = true := h
    rw [Bool.and_eq_true] at h'
    exact ⟨h'.1, of_decide_eq_true h'.2⟩
theorem ev_step {B : Bs} {b : Bool} {n : Nat} (G : Gd B) (g : Good B n (ev b B.ns n)) (gi : (ev b B.ns n).gen = true → GI B n) : Good B (n + 1) (ev b B.ns (n + 1)) := by
  have := Good_next G g (io_ok G g (Known_ev b B.ns n)) gi
  exact ⟨this.e, this.x, this.c, this.m⟩
theorem ev_good0 {B : Bs} (G : Gd B) : ∀ n, Good B n (ev false B.ns n)
  | 0 => Good_bot
  | n + 1 => ev_step G (ev_good0 G n) fun h => by cases (ev_gen _ _ _ h).1
theorem ev_good {B : Bs} (G : Gd B) (gi : ∀ n, 5 ≤ n → GI B n) : ∀ n, Good B n (ev true B.ns n)
  | 0 => Good_bot
  | n + 1 => ev_step G (ev_good G gi n) fun h => gi n (ev_gen _ _ _ h).2

section
variable {M : Model} {A : Around} {R : GenEnd} {Y : Protocol} {n : Nat} {s₀ : Shared} {c : Code} {fs : List Frame} {s : Shared} {env : Env} {K : Flow → Sem Fin} {H : Value → Sem Fin} {gd : Bool → Bool} {lv : List Value → List Value}
theorem seg_If {t : Expr} {a b : List Stmt} {p : Pos}
    (h : wpAny M (A.over c fs) (isTrue t env (eval t env)) (fun q s' => Seg M A R Y n s₀ c ((if q = true then execs a env else execs b env).wrap K H gd lv) fs s') (fun x s' => Seg M A R Y n s₀ c (H x) fs s') s) :
    Seg M A R Y n s₀ c ((exec (.If t a b p) env).wrap K H gd lv) fs s := by
  rw [arm_exec_If]
  exact seg_bind_wrap (wpAny_standAt (seg_bind_wrap h))
/-- the place where a for loop's code comes back -/
noncomputable abbrev forBack (env : Env) (K : Flow → Sem Fin) (H : Value → Sem Fin) (gd : Bool → Bool) (lv : List Value → List Value) : Result → Sem Fin := fun r =>
  ((match r with | .ok f => (.pure f : Sem Flow) | .error e => .raise e).onRaise fun (x : Value) => do
    if (← field x 1) == Value.none then unsupported "frame.own-activation:exception-without-traceback"
    setFlight x env.frame).wrap K H gd lv
theorem seg_For {tg it : Expr} {body orelse : List Stmt} {pos : Pos} (hs : ∀ x, foldedSetIterable it env x = pure x)
    (h : wpAny M (A.over c fs) (eval it env) (fun x s₁ => wpAny M (A.over c fs) (pyIter x) (fun itV s₂ =>
      ∀ p, Seg M A R Y n s₀ (.forLoop tg itV body orelse env) (M.den (.forLoop tg itV body orelse env)) (.ret (forBack env K H gd lv) none (gd false) (lv []) c p [] :: fs) s₂) (fun x s' => Seg M A R Y n s₀ c (H x) fs s') s₁) (fun x s' => Seg M A R Y n s₀ c (H x) fs s') s) :
    Seg M A R Y n s₀ c ((exec (.For tg it body orelse pos) env).wrap K H gd lv) fs s := by
  rw [arm_exec_For]
  refine seg_bind_wrap (wpAny_standAt (seg_bind_wrap (wpAny_mono h (fun x s₁ h₁ => ?_) fun _ _ z => z)))
  refine seg_bind_wrap (wpAny_of_eq (hs x) (seg_bind_wrap (wpAny_standAt (seg_bind_wrap (wpAny_holding (wpAny_mono h₁ (fun itV s₂ h₂ => ?_) fun _ _ z => z))))))
  exact seg_call h₂
theorem seg_forTurn {prog : Program} {w : World} {tg : Expr} {itV : Value} {body orelse : List Stmt} {env : Env}
    (h : wpAny (model prog w) (A.over (.forLoop tg itV body orelse env) fs) (pyNext itV) (fun r s₁ => match r with
      | none => Seg (model prog w) A R Y n s₀ (.block orelse env) ((model prog w).den (.block orelse env)) fs s₁
      | some v => wpAny (model prog w) (A.over (.forLoop tg itV body orelse env) fs) (letOwnedTupleGo tg itV v) (fun _ s₂ => wpAny (model prog w) (A.over (.forLoop tg itV body orelse env) fs) (assign tg env v) (fun _ s₃ =>
          ∀ H', Seg (model prog w) A R Y n s₀ (.forLoop tg itV body orelse env) ((execs body env).wrap (fun f => match f with
            | .next | .cont => .pure (.again (.forLoop tg itV body orelse env))
            | .brk => .pure (.done .next)
            | .ret v => .pure (.done (.ret v))) H' id id) fs s₃) never s₂) never s₁) never s) :
    Seg (model prog w) A R Y n s₀ (.forLoop tg itV body orelse env) ((model prog w).den (.forLoop tg itV body orelse env)) fs s := by
  show Seg _ A R Y n s₀ _ ((forTurn tg itV body orelse env).onRaise (fun x => do noteFrame x env; theTreesLotGoes x)) fs s
  unfold forTurn
  rw [Sem.onRaise_eq_wrap]
  refine seg_bind_wrap (wpAny_standAt (seg_bind_wrap (wpAny_onRaise (wpAny_mono h (fun r s₁ h₁ => ?_) fun _ _ z => z.elim))))
  cases r with
  | none => exact seg_again rfl h₁
  | some v =>
    refine seg_bind_wrap (wpAny_mono h₁ (fun _ s₂ h₂ => ?_) fun _ _ z => z.elim)
    refine seg_bind_wrap (wpAny_mono h₂ (fun _ s₃ h₃ => ?_) fun _ _ z => z.elim)
    rw [Sem.bind_eq_wrap', Sem.wrap_wrap]
    rw [Sem.wrap_congr (execs body env) _ _ (K' := fun f => match f with
            | .next | .cont => .pure (.again (.forLoop tg itV body orelse env))
            | .brk => .pure (.done .next)
            | .ret v => .pure (.done (.ret v))) (fun f => by cases f <;> rfl) (fun e => rfl)]
    exact h₃ _
end
end Mine
end
section
/-! The generator: its loop. -/
namespace Mine
open PySem PySem.Spec PySem.Calls PyProof.Rows
set_option maxRecDepth 100000

noncomputable def gN : Names := match genOf topBody with
  | some (_, N) => N
  | Option.none => []
/-- later states that leave a generator's places alone -/
noncomputable def Frz (B : Bs) (W : Addr → Prop) (s s' : Shared) : Prop := (∀ b o, W b → s.heap.get? b = some o → s'.heap.get? b = some o) ∧ (∀ b o, B.h₀.get? b = some o → s'.heap.get? b = some o)
/-- the places that a part of a generator's run may write: none, when the last yield stood behind its loop -/
noncomputable abbrev Wn (W : Addr → Prop) (tr : Bool) (n : Nat) : Addr → Prop := fun b => W b ∧ ¬ (n = 0 ∧ tr = true)
noncomputable def gR (W : Addr → Prop) (tr : Bool) : GenEnd := fun n s₀ r s => r = .ok (.ret .none) ∧ (n = 0 ∧ Kp (Wn W tr 0) (fun _ => False) s₀ s)
noncomputable def gY (B : Bs) (W : Addr → Prop) (tr : Bool) (us : List (List AV)) : Protocol := fun m s₀ v s kap =>
  (∃ p, us[us.length - 1 - m]? = some p ∧ IT B [] p v s.heap) ∧ Kp W (fun _ => False) s₀ s ∧ (∀ b, Wn W tr m b → ∃ o, s.heap.get? b = some o) ∧ ∀ s'', Frz B (Wn W tr m) s s'' → kap (.send .none) s''
noncomputable def escEnd : Bool → List Nat → Bool
  | e, [] => e
  | true, _ :: r => escEnd false r
  | false, c :: r => escEnd (decide (c = 92)) r
theorem escEnd_len : ∀ (r : List Nat) (e : Bool) (p : Nat), escEnd e r = true → (unitsFrom p e r).length ≠ 0
  | [], true, p, _ => by simp [unitsFrom]
  | [], false, p, h => by exact ff h
  | _ :: r, true, p, h => by simp [unitsFrom]
  | c :: r, false, p, h => by
    unfold unitsFrom
    by_cases q : c = 92
    · rw [if_pos q]
      have h' : escEnd (decide (c = 92)) r = true := h
      rw [decide_eq_true q] at h'
      exact escEnd_len r true (p + 1) h'
    · rw [if_neg q]; simp
theorem Wn_all {W : Addr → Prop} {tr : Bool} {n : Nat} (h : tr = true → n ≠ 0) {b : Addr} (hb : W b) : Wn W tr n b := ⟨hb, fun q => h q.2 q.1⟩
noncomputable abbrev gW (L it e : Addr) : Addr → Prop := fun b => b = L ∨ b = it ∨ b = e

/-- what stays of a generator's frame -/
structure GSt (B : Bs) (genv : Env) (it e : Addr) : Prop where
  names : genv.scope.names = gN
  co : genv.scope.isCoroutine = false
  hei : e ≠ it
  hLi : genv.locals ≠ it
  hLe : genv.locals ≠ e
  bi : B.h₀.get? it = none
  be : B.h₀.get? e = none
/-- a generator's state between turns -/
structure GIv (B : Bs) (genv : Env) (it e : Addr) (x : Str) (t : Tok) (p : Nat) (esc : Bool) (s : Shared) : Prop where
  fm : ∃ l, Fm B genv [] l s.heap ∧ l "escape" = some (.bool esc) ∧ (esc = true → l "pos" = some (.int ((p : Int) - 1)))
  keep : ∀ b o, B.h₀.get? b = some o → s.heap.get? b = some o
  enum : ∃ old, IsEnum s.heap e it p old
  iter : s.heap.IsStrIter it (strIterType x) x t p

section
variable {B : Bs} {genv : Env} {l : AL} {it e : Addr} {x : Str} {t : Tok} {s s' : Shared} {p : Nat} {esc : Bool}
theorem nocell (y : Str) (hN : genv.scope.names = gN) : genv.kindOf y ≠ some .cell := by
  show genv.scope.names.lookup y ≠ _
  rw [hN]
  have : ∀ q ∈ gN, q.2 ≠ .cell := by decide +kernel
  intro h
  exact this _ (mem_of_lookup h) rfl
theorem fm_at {h h' : Heap} (F : Fm B genv [] l h) (hN : genv.scope.names = gN) (hL : ∀ o, h.get? genv.locals = some o → h'.get? genv.locals = some o) : Fm B genv [] l h' where
  kind := F.kind
  glb := F.glb
  blt := F.blt
  ns := let ⟨m, hn, hv⟩ := F.ns; ⟨m, hn.at' hL, hv⟩
  cel := fun y hk => absurd hk (nocell y hN)
  inj := F.inj
  locR := fun h => nomatch h
  base := F.base
theorem vr_nil {ρ : List Addr} {a : AV} {u : Value} (h : VR B ρ a u) (hp : match a with | .ref _ => False | _ => True) : VR B [] a u := by
  cases h with
  | ref _ => exact hp.elim
  | none => exact .none
  | bool b => exact .bool b
  | int i t => exact .int i t
  | flt x t => exact .flt x t
  | str x t => exact .str x t
  | scr => exact .scr
theorem st_nil {h : Heap} (hk : ∀ b o, B.h₀.get? b = some o → h.get? b = some o) : St B [] [] h := ⟨hk, rfl, List.nodup_nil, fun _ h => (nomatch h), fun k ao e => by simp at e⟩
theorem kp_ext {W : Addr → Prop} {ρ : List Addr} {O : Addr → Prop} (x : Ext [] O s ρ s') (h : ∀ b, O b → W b) : Kp W (fun _ => False) s s' :=
  ⟨fun b o hb e => x.kept b o e (fun h => nomatch h) (fun q => hb (h b q)), fun i g _ e => x.gens i g e, x.bare, x.os⟩
theorem own_is (hN : genv.scope.names = gN) {b : Addr} (h : own genv b) : b = genv.locals := by
  rcases h with h | ⟨y, hy, _⟩
  · exact h
  · exact absurd hy (nocell y hN)
theorem enum_walks {Ax : Around} (hh : Ax.handled = none) (x : Str) (t : Tok) (hei : e ≠ it) :
    WalksT Challenge.pw_rl0083_01 B.w Ax e [e, it] [e, it] x.cps.size (fun i vals => ∃ t' v, (∃ c u, x.cps[i]? = some c ∧ v = Value.str ⟨#[c]⟩ u) ∧ vals = #[.int i t', v])
      (fun i h => (∃ old, IsEnum h e it i old) ∧ h.IsStrIter it (strIterType x) x t i) (fun i T h => (∃ y, IsEnumOut h e it ((i : Int) + 1) y T) ∧ h.IsStrIter it (strIterType x) x t (i + 1) ∧ T ≠ e ∧ T ≠ it) := by
  unfold strIterType
  split
  · exact WalksT.enumerateD (Draws.strAscii (A := Ax.in1) hh it x t) e hei (by simpa using hei) (by simp)
  · exact WalksT.enumerateD (Draws.strWide (A := Ax.in1) hh it x t) e hei (by simpa using hei) (by simp)

theorem ext_mono {ρ : List Addr} (x : Ext [] noO s ρ s') : ∀ b o, s.heap.get? b = some o → s'.heap.get? b = some o := fun b o e => x.kept b o e (fun h => nomatch h) (fun h => h)
theorem GIv.mono (I : GIv B genv it e x t p esc s) (hN : genv.scope.names = gN) (hk : ∀ b o, s.heap.get? b = some o → s'.heap.get? b = some o) : GIv B genv it e x t p esc s' where
  fm := let ⟨l, F, h⟩ := I.fm; ⟨l, fm_at F hN (fun o => hk _ o), h⟩
  keep := fun b o e => hk b o (I.keep b o e)
  enum := let ⟨old, h⟩ := I.enum; ⟨old, hk _ _ h⟩
  iter := let ⟨o, ho, r⟩ := I.iter; ⟨o, hk _ o ho, r⟩
theorem GIv.frz (I : GIv B genv it e x t p esc s) (hN : genv.scope.names = gN) (hk : Frz B (gW genv.locals it e) s s') : GIv B genv it e x t p esc s' where
  fm := let ⟨l, F, h⟩ := I.fm; ⟨l, fm_at F hN (fun o => hk.1 _ o (.inl rfl)), h⟩
  keep := hk.2
  enum := let ⟨old, h⟩ := I.enum; ⟨old, hk.1 _ _ (.inr (.inr rfl)) h⟩
  iter := let ⟨o, ho, r⟩ := I.iter; ⟨o, hk.1 _ o (.inr (.inl rfl)) ho, r⟩
theorem GIv.alive (I : GIv B genv it e x t p esc s) : ∀ b, gW genv.locals it e b → ∃ o, s.heap.get? b = some o := fun b hb => by
  rcases hb with rfl | rfl | rfl
  · obtain ⟨l, F, _⟩ := I.fm
    obtain ⟨m, ⟨o, _, _, ho, _⟩, _⟩ := F.ns
    exact ⟨o, ho⟩
  · obtain ⟨o, ho, _⟩ := I.iter; exact ⟨o, ho⟩
  · obtain ⟨old, h⟩ := I.enum; exact ⟨_, h⟩
theorem ytup_ok {E : Evs} {n : Nat} {Ax : Around} {ye : Expr} {i : Int} {y : Str} (g : GE B n E) (ft : Fit n Ax) (hN : genv.scope.names = gN) (h : E.e ye gN l [] = some (.ref 0, [.tup [.int i, .str y]])) (F : Fm B genv [] l s.heap) (hk : ∀ b o, B.h₀.get? b = some o → s.heap.get? b = some o) :
    wpAny (MM B) Ax (eval ye genv) (fun v s' => IT B [] [.int i, .str y] v s'.heap ∧ ∃ ρ', Ext [] noO s ρ' s') never s := by
  refine wpAny_mono (g ye gN l [] _ _ h Ax genv [] s ft hN F (st_nil hk)) (fun v s' q => ?_) fun _ _ z => z
  obtain ⟨ρ', x, F', S', r⟩ := q
  obtain ⟨a, rfl, ha⟩ := r.refI
  obtain ⟨vs, m, gT, rs⟩ := tup_at S' (k := 0) (x := [.int i, .str y]) rfl ha
  obtain ⟨u1, u2, rfl, r1, r2⟩ := rs.two
  exact ⟨⟨a, u1, u2, rfl, ⟨_, gT, rfl, m, rfl⟩, vr_nil r1 trivial, vr_nil r2 trivial⟩, ρ', x⟩

/-- what the little evaluator makes of the generator's words -/
theorem e3_name (ns : List Int) {y : Str} {q : Pos} {H : AH} {v : AV} {n : Nat} (hy : isVar gN y = true) (hv : l y = some v) : (ev false ns (n + 1)).e (.Name y q) gN l H = some (v, H) := by
  show (if isVar gN y = true then (l y).map (·, H) else none) = _
  rw [if_pos hy, hv]; rfl
theorem e3_str (ns : List Int) {y : Str} {q : Pos} {k : Nat} {H : AH} {n : Nat} : (ev false ns (n + 1)).e (.Constant (.str y) k q) gN l H = some (.str y, H) := rfl
theorem e3_tup (ns : List Int) {a b : Expr} {i : Int} {y : Str} {k : Nat} {q : Pos} {n : Nat} (hp : plainArgs [a, b] = true) (h1 : (ev false ns n).e a gN l [] = some (.int i, [])) (h2 : (ev false ns n).e b gN l [] = some (.str y, [])) :
    (ev false ns (n + 1)).e (.Tuple [a, b] k q) gN l [] = some (.ref 0, [.tup [.int i, .str y]]) := by
  show (if plainArgs [a, b] = true then _ else _) = _
  rw [if_pos hp]
  show obind (obind ((ev false ns n).e a gN l []) fun v H₁ => obind (obind ((ev false ns n).e b gN l H₁) fun w H₂ => some ([w], H₂)) fun vs H₂ => some (v :: vs, H₂)) _ = _
  rw [h1]
  show obind (obind (obind ((ev false ns n).e b gN l []) _) _) _ = _
  rw [h2]
  rfl
theorem e3_cat (ns : List Int) {a b : Expr} {y z : Str} {q : Pos} {n : Nat} (hs : sizeOk (y.length + z.length) = true) (h1 : (ev false ns n).e a gN l [] = some (.str y, [])) (h2 : (ev false ns n).e b gN l [] = some (.str z, [])) :
    (ev false ns (n + 1)).e (.BinOp a .Add b q) gN l [] = some (.str (y ++ z), []) := by
  show obind ((ev false ns n).e a gN l []) (fun u H₁ => obind ((ev false ns n).e b gN l H₁) fun v H₂ => binop .Add u v H₂) = _
  rw [h1]
  show obind ((ev false ns n).e b gN l []) _ = _
  rw [h2]
  exact if_pos hs
theorem back_cat (c : Nat) : (Str.ofString "\\" ++ ⟨#[c]⟩ : Str) = ⟨#[92, c]⟩ := by
  have : Str.ofString "\\" = ⟨#[92]⟩ := by decide +kernel
  rw [this]
  show (⟨#[92] ++ #[c]⟩ : Str) = _
  rfl
theorem back_is : Str.ofString "\\" = ⟨#[92]⟩ := by decide +kernel
end
end Mine
end
section
/-! The generator: its loop, whole. -/
namespace Mine
open PySem PySem.Spec PySem.Calls PyProof.Rows
set_option maxRecDepth 100000

section
variable {B : Bs} {genv : Env} {it e : Addr} {x : Str} {t : Tok}
theorem us_at {us pre : List (List AV)} {a : List AV} {r : List (List AV)} (h : us = pre ++ a :: r) : us[us.length - 1 - r.length]? = some a := by
  subst h
  have : (pre ++ a :: r).length - 1 - r.length = pre.length := by simp
  rw [this, List.getElem?_append_right (Nat.le_refl _)]
  simp
theorem test_name {b : Bool} {l : AL} {y : Str} {q : Pos} {H : AH} {n : Nat} (hy : isVar gN y = true) (hv : l y = some (.bool b)) : cond (ev false B.ns (n + 1)) gN l (.Name y q) H = some (b, H) := by
  show obind ((ev false B.ns (n + 1)).e (.Name y q) gN l H) boolV = _
  rw [e3_name B.ns hy hv]
  rfl
theorem test_back {l : AL} {y : Str} {c : Nat} {q q' q'' : Pos} {k : Nat} {H : AH} {n : Nat} (hy : isVar gN y = true) (hv : l y = some (.str ⟨#[c]⟩)) : cond (ev false B.ns (n + 1)) gN l (.Compare (.Name y q) [.Eq] [.Constant (.str "\\") k q'] q'') H = some (decide (c = 92), H) := by
  show obind ((ev false B.ns (n + 1)).e (.Name y q) gN l H) (fun u H₁ => obind ((ev false B.ns (n + 1)).e (.Constant (.str "\\") k q') gN l H₁) fun v H₂ => cmpV .Eq u v H₂) = _
  rw [e3_name B.ns hy hv]
  show some ((⟨#[c]⟩ : Str) == Str.ofString "\\", H) = _
  have : ((⟨#[c]⟩ : Str) == Str.ofString "\\") = decide (c = 92) := by
    rw [back_is]
    by_cases q : c = 92
    · subst q; decide
    · have : (⟨#[c]⟩ : Str) ≠ ⟨#[92]⟩ := fun h => q (by injection h with h; injection h with h; injection h)
      rw [beq_eq_false_iff_ne.mpr this]
      simp [q]
  rw [this]
theorem gname (y : Str) (h : y = "pos" ∨ y = "escape" ∨ y = "ch" ∨ y = "addr") : isVar gN y = true := by
  rcases h with rfl | rfl | rfl | rfl <;> decide +kernel


/-- the yields of a turn -/
theorem y1_is (ns : List Int) {l : AL} {i : Int} {c : Nat} {q1 q2 q3 q4 q5 : Pos} {k1 k2 n : Nat} (hp : l "pos" = some (.int i)) (hc : l "ch" = some (.str ⟨#[c]⟩)) :
    (ev false ns (n + 3)).e (.Tuple [.Name "pos" q1, .BinOp (.Constant (.str "\\") k1 q2) .Add (.Name "ch" q3) q4] k2 q5) gN l [] = some (.ref 0, [.tup [.int i, .str ⟨#[92, c]⟩]]) := by
  refine e3_tup ns rfl (e3_name ns (gname _ (.inl rfl)) hp) ?_
  rw [← back_cat c]
  exact e3_cat ns (size_le (by rw [back_is]; show 1 + 1 ≤ 1000000; decide)) (e3_str ns) (e3_name ns (gname _ (.inr (.inr (.inl rfl)))) hc)
theorem y2_is (ns : List Int) {l : AL} {i : Int} {c : Nat} {q1 q2 q3 : Pos} {k n : Nat} (hp : l "pos" = some (.int i)) (hc : l "ch" = some (.str ⟨#[c]⟩)) :
    (ev false ns (n + 2)).e (.Tuple [.Name "pos" q1, .Name "ch" q2] k q3) gN l [] = some (.ref 0, [.tup [.int i, .str ⟨#[c]⟩]]) :=
  e3_tup ns rfl (e3_name ns (gname _ (.inl rfl)) hp) (e3_name ns (gname _ (.inr (.inr (.inl rfl)))) hc)
theorem y3_is (ns : List Int) {l : AL} {i : Int} {q1 q2 q3 : Pos} {k k' n : Nat} (hp : l "pos" = some (.int i)) :
    (ev false ns (n + 2)).e (.Tuple [.Name "pos" q1, .Constant (.str "\\") k' q2] k q3) gN l [] = some (.ref 0, [.tup [.int i, .str ⟨#[92]⟩]]) := by
  rw [← back_is]
  exact e3_tup ns rfl (e3_name ns (gname _ (.inl rfl)) hp) (e3_str ns)
/-- a yield, and the way on -/
theorem seg_y {A : Around} {tr : Bool} {n m : Nat} {E : Evs} {W : Addr → Prop} {us : List (List AV)} {l : AL} {s₀ s : Shared} {c : Code} {fs : List Frame} {ye : Expr} {q q' : Pos} {i : Int} {y : Str} {K : Flow → Sem Fin} {H : Value → Sem Fin} {lv : List Value → List Value} (g : GE B n E) (ft : Fit n (A.over c fs)) (st : GSt B genv it e)
    (he : E.e ye gN l [] = some (.ref 0, [.tup [.int i, .str y]])) (F : Fm B genv [] l s.heap) (hk : ∀ b o, B.h₀.get? b = some o → s.heap.get? b = some o) (kp : Kp W (fun _ => False) s₀ s) (hu : us[us.length - 1 - m]? = some [.int i, .str y]) (hal : ∀ b, Wn W tr m b → ∃ o, s.heap.get? b = some o)
    (hfs : splitAtGen fs = none) (hfg : fs.any Frame.guarded = false)
    (h : ∀ s' s'', (∀ b o, s.heap.get? b = some o → s'.heap.get? b = some o) → Frz B (Wn W tr m) s' s'' → Seg (MM B) A (gR W tr) (gY B W tr us) m s'' c (K .next) fs s'') :
    Seg (MM B) A (gR W tr) (gY B W tr us) (m + 1) s₀ c ((exec (.Expr (.Yield (some ye) q) q') genv).wrap K H id lv) fs s := by
  refine seg_Expr_Yield hfs rfl hfg (wpAny_mono (ytup_ok g ft st.names he F hk) (fun v s' z kap hkap => ?_) fun _ _ z => z.elim) st.co (interactive_no F)
  obtain ⟨hI, ρ', x⟩ := z
  exact ⟨⟨_, hu, hI⟩, kp.trans (kp_ext x fun _ h => h.elim), fun b hb => let ⟨o, ho⟩ := hal b hb; ⟨o, ext_mono x b o ho⟩, fun s'' fz => hkap .none s'' (h s' s'' (ext_mono x) fz)⟩

theorem x_esc (ns : List Int) {l : AL} {v : Bool} {q1 q2 q3 : Pos} {k n : Nat} : (ev false ns (n + 2)).x [.Assign [.Name "escape" q1] (.Constant (.bool v) k q2) q3] gN l [] = some (.next, put l "escape" (.bool v), []) := by
  show exL (ev false ns (n + 1)) gN [.Assign [.Name "escape" q1] (.Constant (.bool v) k q2) q3] l [] = _
  have h3 : assign1 (ev false ns (n + 1)) gN (.Name "escape" q1) (.bool v) l [] = some (put l "escape" (.bool v), []) := by
    show (if isVar gN "escape" = true then some (put l "escape" (.bool v), []) else none) = _
    exact if_pos (gname "escape" (.inr (.inl rfl)))
  have h4 : exS (ev false ns (n + 1)) (.Assign [.Name "escape" q1] (.Constant (.bool v) k q2) q3) gN l [] = asgn (obind (assign1 (ev false ns (n + 1)) gN (.Name "escape" q1) (.bool v) l []) fun l' H' => some (l', H')) := rfl
  rw [h3] at h4
  unfold exL
  rw [h4]
  rfl
/-- the state behind a turn's stores -/
theorem seg_esc {A : Around} {tr : Bool} {n m : Nat} {W : Addr → Prop} {us : List (List AV)} {l : AL} {s₀ s : Shared} {c : Code} {fs : List Frame} {q1 q2 q3 : Pos} {k : Nat} {v : Bool} {K : Flow → Sem Fin} {H : Value → Sem Fin} (g : GX B (n + 2) (ev false B.ns (n + 2))) (ft : Fit (n + 2) (A.over c fs)) (st : GSt B genv it e)
    (F : Fm B genv [] l s.heap) (hk : ∀ b o, B.h₀.get? b = some o → s.heap.get? b = some o) (kp : Kp W (fun _ => False) s₀ s) (hW : W genv.locals)
    (h : ∀ s', Ext [] (own genv) s [] s' → Fm B genv [] (put l "escape" (.bool v)) s'.heap → Kp W (fun _ => False) s₀ s' → Seg (MM B) A (gR W tr) (gY B W tr us) m s₀ c (K .next) fs s') :
    Seg (MM B) A (gR W tr) (gY B W tr us) m s₀ c ((execs [.Assign [.Name "escape" q1] (.Constant (.bool v) k q2) q3] genv).wrap K H id id) fs s := by
  refine seg_wrap (wpAny_mono (g _ gN l [] _ _ _ (x_esc B.ns) _ genv [] s ft st.names F (st_nil hk)) (fun fl s' q => ?_) fun _ _ z => z.elim)
  obtain ⟨ρ', x, F', S', fr⟩ := q
  cases fr
  have hρ : ρ' = [] := by
    have := S'.len
    exact List.eq_nil_of_length_eq_zero this
  subst hρ
  exact h s' x F' (kp.trans (kp_ext x fun b hb => by rw [own_is st.names hb]; exact hW))

/-- a generator's places within a turn -/
structure GT (B : Bs) (genv : Env) (it e : Addr) (x : Str) (t : Tok) (p : Nat) (l : AL) (s : Shared) : Prop where
  fm : Fm B genv [] l s.heap
  keep : ∀ b o, B.h₀.get? b = some o → s.heap.get? b = some o
  enum : ∃ old, IsEnum s.heap e it p old
  iter : s.heap.IsStrIter it (strIterType x) x t p
theorem GT.mono {p : Nat} {l : AL} {s s' : Shared} (I : GT B genv it e x t p l s) (hN : genv.scope.names = gN) (hk : ∀ b o, s.heap.get? b = some o → s'.heap.get? b = some o) : GT B genv it e x t p l s' where
  fm := fm_at I.fm hN (fun o => hk _ o)
  keep := fun b o e => hk b o (I.keep b o e)
  enum := let ⟨old, h⟩ := I.enum; ⟨old, hk _ _ h⟩
  iter := let ⟨o, ho, r⟩ := I.iter; ⟨o, hk _ o ho, r⟩
theorem GT.frz {p : Nat} {l : AL} {s s' : Shared} (I : GT B genv it e x t p l s) (hN : genv.scope.names = gN) (hk : Frz B (gW genv.locals it e) s s') : GT B genv it e x t p l s' where
  fm := fm_at I.fm hN (fun o => hk.1 _ o (.inl rfl))
  keep := hk.2
  enum := let ⟨old, h⟩ := I.enum; ⟨old, hk.1 _ _ (.inr (.inr rfl)) h⟩
  iter := let ⟨o, ho, r⟩ := I.iter; ⟨o, hk.1 _ o (.inr (.inl rfl)) ho, r⟩
theorem GT.store {p : Nat} {l l' : AL} {s s' : Shared} (I : GT B genv it e x t p l s) (st : GSt B genv it e) (x' : Ext [] (own genv) s [] s') (F : Fm B genv [] l' s'.heap) (S : St B [] [] s'.heap) : GT B genv it e x t p l' s' where
  fm := F
  keep := S.keep
  enum := let ⟨old, h⟩ := I.enum; ⟨old, x'.kept _ _ h (fun h => nomatch h) fun q => st.hLe (own_is st.names q).symm⟩
  iter := let ⟨o, ho, r⟩ := I.iter; ⟨o, x'.kept _ o ho (fun h => nomatch h) fun q => st.hLi (own_is st.names q).symm, r⟩
theorem GT.alive {p : Nat} {l : AL} {s : Shared} (I : GT B genv it e x t p l s) : ∀ b, gW genv.locals it e b → ∃ o, s.heap.get? b = some o := fun b hb => by
  rcases hb with rfl | rfl | rfl
  · obtain ⟨m, ⟨o, _, _, ho, _⟩, _⟩ := I.fm.ns
    exact ⟨o, ho⟩
  · obtain ⟨o, ho, _⟩ := I.iter; exact ⟨o, ho⟩
  · obtain ⟨old, h⟩ := I.enum; exact ⟨_, h⟩
theorem Frz.all {W : Addr → Prop} {tr : Bool} {n : Nat} {s s' : Shared} (h : tr = true → n ≠ 0) (f : Frz B (Wn W tr n) s s') : Frz B W s s' := ⟨fun b o hb => f.1 b o (Wn_all h hb), f.2⟩
theorem gtest_ok {E : Evs} {n : Nat} {Ax : Around} {te : Expr} {b : Bool} {l : AL} {s : Shared} (G : Gd B) (g : GE B n E) (ft : Fit n Ax) (hN : genv.scope.names = gN) (h : cond E gN l te [] = some (b, [])) (F : Fm B genv [] l s.heap) (hk : ∀ b o, B.h₀.get? b = some o → s.heap.get? b = some o) :
    wpAny (MM B) Ax (isTrue te genv (eval te genv)) (fun q s' => q = b ∧ Kp (fun _ => False) (fun _ => False) s s') never s := by
  refine wpAny_mono (cond_ok G g ft hN h F (st_nil hk)) (fun q s' z => ?_) fun _ _ z => z
  obtain ⟨rfl, ρ', x, _, _⟩ := z
  exact ⟨rfl, kp_ext x fun _ h => h⟩
theorem Kp.wide {W : Addr → Prop} {s s' : Shared} (k : Kp (fun _ => False) (fun _ => False) s s') : Kp W (fun _ => False) s s' := ⟨fun b o _ => k.heap b o (fun h => h), k.gens, k.bare, k.os⟩
theorem Kp.all {s s' : Shared} (k : Kp (fun _ => False) (fun _ => False) s s') : ∀ b o, s.heap.get? b = some o → s'.heap.get? b = some o := fun b o => k.heap b o fun h => h
theorem Kp.refl {W : Addr → Prop} {gw : Nat → Prop} {s : Shared} : Kp W gw s s := ⟨fun _ _ _ h => h, fun _ _ _ h => h, fun h => h, rfl⟩
theorem put_get {l : AL} {y : Str} {v : AV} : put l y v y = some v := by simp [put]
theorem put_ne {l : AL} {y z : Str} {v : AV} (h : z ≠ y) : put l y v z = l z := by simp [put, h]

/-- the generator's text, its places left open -/
noncomputable def gTgOf (q : Nat → Pos) (k : Nat → Nat) : Expr := .Tuple [.Name "pos" (q 0), .Name "ch" (q 1)] (k 0) (q 2)
noncomputable def gLbOf (q : Nat → Pos) (k : Nat → Nat) : List Stmt := [.If (.Name "escape" (q 3)) [.Expr (.Yield (some (.Tuple [.Name "pos" (q 4), .BinOp (.Constant (.str "\\") (k 1) (q 5)) .Add (.Name "ch" (q 6)) (q 7)] (k 2) (q 8))) (q 9)) (q 10), .Assign [.Name "escape" (q 11)] (.Constant (.bool false) (k 3) (q 12)) (q 13)]
      [.If (.Compare (.Name "ch" (q 14)) [.Eq] [.Constant (.str "\\") (k 4) (q 15)] (q 16)) [.Assign [.Name "escape" (q 17)] (.Constant (.bool true) (k 5) (q 18)) (q 19)] [.Expr (.Yield (some (.Tuple [.Name "pos" (q 20), .Name "ch" (q 21)] (k 6) (q 22))) (q 23)) (q 24)] (q 25)] (q 26)]
noncomputable def gBOf (q : Nat → Pos) (k : Nat → Nat) : List Stmt := [.Assign [.Name "pos" (q 27)] (.Constant (.int 0) (k 7) (q 28)) (q 29), .Assign [.Name "escape" (q 30)] (.Constant (.bool false) (k 8) (q 31)) (q 32), .For (gTgOf q k) (.Call (.Name "enumerate" (q 33)) [.Name "addr" (q 34)] [] (q 35)) (gLbOf q k) [] (q 36),
    .If (.Name "escape" (q 37)) [.Expr (.Yield (some (.Tuple [.Name "pos" (q 38), .Constant (.str "\\") (k 9) (q 39)] (k 10) (q 40))) (q 41)) (q 42)] [] (q 43)]
noncomputable def pick {α : Type} (l : List α) (z : α) (n : Nat) : α := l.getD n z
theorem gshape : ∃ (q : Nat → Pos) (k : Nat → Nat), genOf topBody = some (gBOf q k, gN) :=
  ⟨pick [_, _, _, _, _, _, _, _, _, _, _, _, _, _, _, _, _, _, _, _, _, _, _, _, _, _, _, _, _, _, _, _, _, _, _, _, _, _, _, _, _, _, _, _] default, pick [_, _, _, _, _, _, _, _, _, _, _] default, rfl⟩
noncomputable def gq : Nat → Pos := Classical.choose gshape
theorem gshape1 : ∃ (k : Nat → Nat), genOf topBody = some (gBOf gq k, gN) := Classical.choose_spec gshape
noncomputable def gk : Nat → Nat := Classical.choose gshape1
theorem gshape2 : genOf topBody = some (gBOf gq gk, gN) := Classical.choose_spec gshape1
set_option maxHeartbeats 1000000 in
theorem gen_loop {A : Around} {tr : Bool} {us : List (List AV)} {kk : Result → Sem Fin} {c : Code} {pp : Pos} (G : Gd B) (st : GSt B genv it e)
    (ft : Fit 4 (A.over (.forLoop (gTgOf gq gk) (.ref e) (gLbOf gq gk) [] genv) [.ret kk none false [] c pp []]))
    (hend : ∀ esc l s₀ s, esc = tr → Fm B genv [] l s.heap → l "escape" = some (.bool esc) → (esc = true → l "pos" = some (.int ((x.cps.size : Int) - 1))) → (∀ b o, B.h₀.get? b = some o → s.heap.get? b = some o) → Kp (gW genv.locals it e) (fun _ => False) s₀ s → (∃ pre, us = pre ++ unitsFrom x.cps.size esc []) →
      Seg (MM B) A (gR (gW genv.locals it e) tr) (gY B (gW genv.locals it e) tr us) (unitsFrom x.cps.size esc []).length s₀ c (kk (.ok .next)) [] s) :
    ∀ (r : List Nat) (p : Nat) (esc : Bool) (l : AL) (s₀ s : Shared), x.cps.toList.drop p = r → p ≤ x.cps.size → escEnd esc r = tr → GT B genv it e x t p l s → l "escape" = some (.bool esc) → (esc = true → l "pos" = some (.int ((p : Int) - 1))) → Kp (gW genv.locals it e) (fun _ => False) s₀ s →
      (∃ pre, us = pre ++ unitsFrom p esc r) →
      Seg (MM B) A (gR (gW genv.locals it e) tr) (gY B (gW genv.locals it e) tr us) (unitsFrom p esc r).length s₀ (.forLoop (gTgOf gq gk) (.ref e) (gLbOf gq gk) [] genv) ((MM B).den (.forLoop (gTgOf gq gk) (.ref e) (gLbOf gq gk) [] genv)) [.ret kk none false [] c pp []] s := by
  have hh := ft.handled
  have W := enum_walks (B := B) hh x t st.hei
  have g4 := ev_good0 G 4
  intro r
  induction r with
  | nil =>
    intro p esc l s₀ s hd hp htr I he hpos kp hu
    have hlen : p = x.cps.size := by
      have := congrArg List.length hd
      simp at this
      omega
    subst hlen
    refine seg_forTurn (W.done s _ _ ⟨I.enum, I.iter⟩ fun h' tk hk => ?_)
    have kp' : Kp (gW genv.locals it e) (fun _ => False) s { s with heap := h', toks := tk } := Kp.heapOnly fun b o hb ho => hk b o (fun hm => hb (by
      rcases List.mem_cons.mp hm with q | q
      · exact .inr (.inr q)
      · exact .inr (.inl (List.mem_singleton.mp q)))) ho
    have hLk : ∀ o, s.heap.get? genv.locals = some o → h'.get? genv.locals = some o := fun o ho => hk _ o (by simp [st.hLi, st.hLe]) ho
    have keep' : ∀ b o, B.h₀.get? b = some o → h'.get? b = some o := fun b o ho => hk b o (fun hm => by
      rcases List.mem_cons.mp hm with q | q
      · rw [q, st.be] at ho; exact nn ho
      · rw [List.mem_singleton.mp q, st.bi] at ho; exact nn ho) (I.keep b o ho)
    exact seg_leaf (.ok .next) (hend esc l s₀ { s with heap := h', toks := tk } htr (fm_at I.fm st.names hLk) he hpos keep' (kp.trans kp') hu)
  | cons ch r ih =>
    intro p esc l s₀ s hd hp htr I he hpos kp hu
    have hlt : p < x.cps.size := by
      have := congrArg List.length hd
      simp at this
      omega
    have hch : x.cps[p]? = some ch := by
      have : (x.cps.toList.drop p)[0]? = some ch := by rw [hd]; rfl
      rw [List.getElem?_drop] at this
      simpa using this
    have hd' : x.cps.toList.drop (p + 1) = r := by
      rw [← List.drop_drop, hd]; rfl
    refine seg_forTurn (W.item p s _ _ hlt ⟨I.enum, I.iter⟩ fun T vals h₁ tk₁ hv hge hT hmid hk₁ => ?_)
    refine hide fun hG hF => ?_
    obtain ⟨t', v, ⟨c', u, hc', rfl⟩, rfl⟩ := hv
    refine hF ?_
    clear hF hG
    have hcc : c' = ch := Option.some.inj (hc'.symm.trans hch)
    subst hcc
    refine W.go _ _ _ p T _ _ _ hmid fun h₂ hst₂ hk₂ => ?_
    have wr : ∀ b, ¬ gW genv.locals it e b → b ∉ [e, it] := fun b hb hm => hb (by
      rcases List.mem_cons.mp hm with q | q
      · exact .inr (.inr q)
      · exact .inr (.inl (List.mem_singleton.mp q)))
    have hk : ∀ b o, b ∉ [e, it] → s.heap.get? b = some o → h₂.get? b = some o := fun b o hb ho => hk₂ b o hb (hk₁ b o hb ho)
    have kp₂ : Kp (gW genv.locals it e) (fun _ => False) s { s with heap := h₂, toks := tk₁ } := Kp.heapOnly fun b o hb ho => hk b o (wr b hb) ho
    have I₂ : GT B genv it e x t (p + 1) l { s with heap := h₂, toks := tk₁ } := ⟨fm_at I.fm st.names fun o ho => hk _ o (by simp [st.hLi, st.hLe]) ho, fun b o ho => hk b o (fun hm => by
      rcases List.mem_cons.mp hm with q | q
      · rw [q, st.be] at ho; exact nn ho
      · rw [List.mem_singleton.mp q, st.bi] at ho; exact nn ho) (I.keep b o ho), hst₂.1, hst₂.2⟩
    have hTe : T ∉ [e, it] := W.apart p T _ hmid
    have hT₂ : h₂.IsTuple T #[.int p t', .str ⟨#[c']⟩ u] := by
      obtain ⟨o, ho, r⟩ := hT
      exact ⟨o, hk₂ T o hTe ho, r⟩
    refine wpAny_mono (bindT_ok (s := { s with heap := h₂, toks := tk₁ }) (N := gN) (x := [.int p, .str ⟨#[c']⟩]) (l₁ := put (put l "pos" (.int p)) "ch" (.str ⟨#[c']⟩)) hh st.names ?_ I₂.fm (st_nil I₂.keep) ⟨T, _, _, rfl, hT₂, .int .., .str ..⟩) (fun _ s₃ z => ?_) fun _ _ z => z
    · show (if (isVar gN "pos" && isVar gN "ch") = true then some (put (put l "pos" (.int p)) "ch" (.str ⟨#[c']⟩)) else none) = _
      rw [if_pos (by rw [gname _ (.inl rfl), gname _ (.inr (.inr (.inl rfl)))]; rfl)]
    obtain ⟨x3, F3, S3⟩ := z
    have I₃ := I₂.store st x3 F3 S3
    have kp₃ : Kp (gW genv.locals it e) (fun _ => False) s₀ s₃ := (kp.trans kp₂).trans (kp_ext x3 fun b hb => .inl (own_is st.names hb))
    generalize hl3 : put (put l "pos" (.int p)) "ch" (.str ⟨#[c']⟩) = l₃ at I₃ F3
    have e3 : l₃ "escape" = some (.bool esc) := by
      rw [← hl3, put_ne (by decide +kernel), put_ne (by decide +kernel)]; exact he
    have p3 : l₃ "pos" = some (.int p) := by
      rw [← hl3, put_ne (by decide +kernel), put_get]
    have c3 : l₃ "ch" = some (.str ⟨#[c']⟩) := by
      rw [← hl3, put_get]
    intro H'
    refine seg_execs_cons (seg_If (wpAny_mono (gtest_ok G g4.e ft st.names (test_name (B := B) (n := 3) (gname _ (.inr (.inl rfl))) e3) I₃.fm I₃.keep) (fun q s₄ z => ?_) fun _ _ z => z.elim))
    obtain ⟨rfl, k4⟩ := z
    have I₄ := I₃.mono (s' := s₄) st.names k4.all
    have kp₄ := kp₃.trans (k4.wide (W := gW genv.locals it e))
    cases q with
    | true =>
      rw [if_pos rfl]
      obtain ⟨pre, hu⟩ := hu
      have hu' : us = pre ++ [AV.int p, AV.str ⟨#[92, c']⟩] :: unitsFrom (p + 1) false r := hu
      refine seg_execs_cons (seg_y (m := (unitsFrom (p + 1) false r).length) g4.e ft st (y1_is B.ns (n := 1) p3 c3) I₄.fm I₄.keep kp₄ (us_at hu') (fun b hb => I₄.alive b hb.1) rfl rfl fun s₅ s₆ m5 fz => ?_)
      have htr' : escEnd false r = tr := htr
      have I₆ := (I₄.mono (s' := s₅) st.names m5).frz (s' := s₆) st.names (fz.all fun q => escEnd_len r false (p + 1) (htr'.trans q))
      refine seg_esc (n := 2) g4.x ft st I₆.fm I₆.keep .refl (.inl rfl) fun s₇ x7 F7 k7 => ?_
      have I₇ := I₆.store st x7 F7 (st_nil fun b o ho => x7.kept b o (I₆.keep b o ho) (fun h => nomatch h) fun hb => by
        have hb' := own_is st.names hb
        rw [hb', F7.base] at ho; exact nn ho)
      refine seg_again rfl (ih (p + 1) false _ s₆ s₇ hd' hlt htr' I₇ put_get (fun h => by exact ff h) k7 ⟨pre ++ [[AV.int p, AV.str ⟨#[92, c']⟩]], by rw [hu']; simp⟩)
    | false =>
      rw [if_neg Bool.false_ne_true]
      refine seg_execs_cons (seg_If (wpAny_mono (gtest_ok G g4.e ft st.names (test_back (B := B) (n := 3) (gname _ (.inr (.inr (.inl rfl)))) c3) I₄.fm I₄.keep) (fun q s₅ z => ?_) fun _ _ z => z.elim))
      obtain ⟨rfl, k5⟩ := z
      have I₅ := I₄.mono (s' := s₅) st.names k5.all
      have kp₅ := kp₄.trans (k5.wide (W := gW genv.locals it e))
      obtain ⟨pre, hu⟩ := hu
      by_cases hc : c' = 92
      · rw [decide_eq_true hc, if_pos rfl]
        have hun : unitsFrom p false (c' :: r) = unitsFrom (p + 1) true r := by
          show (if c' = 92 then unitsFrom (p + 1) true r else [.int p, .str ⟨#[c']⟩] :: unitsFrom (p + 1) false r) = _
          rw [if_pos hc]
        rw [hun] at hu ⊢
        refine seg_esc (n := 2) g4.x ft st I₅.fm I₅.keep kp₅ (.inl rfl) fun s₇ x7 F7 k7 => ?_
        have I₇ := I₅.store st x7 F7 (st_nil fun b o ho => x7.kept b o (I₅.keep b o ho) (fun h => nomatch h) fun hb => by
          have hb' := own_is st.names hb
          rw [hb', F7.base] at ho; exact nn ho)
        refine seg_again rfl (ih (p + 1) true _ s₀ s₇ hd' hlt (by have h' : escEnd (decide (c' = 92)) r = tr := htr; rw [decide_eq_true hc] at h'; exact h') I₇ put_get (fun _ => ?_) k7 ⟨pre, hu⟩)
        rw [put_ne (by decide +kernel), p3]
        congr 2
        omega
      · rw [decide_eq_false hc, if_neg Bool.false_ne_true]
        have hun : unitsFrom p false (c' :: r) = [AV.int p, AV.str ⟨#[c']⟩] :: unitsFrom (p + 1) false r := by
          show (if c' = 92 then unitsFrom (p + 1) true r else [.int p, .str ⟨#[c']⟩] :: unitsFrom (p + 1) false r) = _
          rw [if_neg hc]
        rw [hun] at hu ⊢
        refine seg_execs_cons (seg_y (m := (unitsFrom (p + 1) false r).length) g4.e ft st (y2_is B.ns (n := 2) p3 c3) I₅.fm I₅.keep kp₅ (us_at hu) (fun b hb => I₅.alive b hb.1) rfl rfl fun s₆ s₇ m6 fz => ?_)
        have htr' : escEnd false r = tr := by have h' : escEnd (decide (c' = 92)) r = tr := htr; rw [decide_eq_false hc] at h'; exact h'
        have I₇ := (I₅.mono (s' := s₆) st.names m6).frz (s' := s₇) st.names (fz.all fun q => escEnd_len r false (p + 1) (htr'.trans q))
        refine seg_again rfl (ih (p + 1) false _ s₇ s₇ hd' hlt htr' I₇ e3 (fun h => by exact ff h) .refl ⟨pre ++ [[AV.int p, AV.str ⟨#[c']⟩]], by rw [hu]; simp⟩)
end
end Mine
end
section
/-! The generator, whole. -/
namespace Mine
open PySem PySem.Spec PySem.Calls PyProof.Rows
set_option maxRecDepth 100000

noncomputable def GShape (gb : List Stmt) : Prop := gb = gBOf gq gk

section
variable {B : Bs} {genv : Env} {it e : Addr} {x : Str} {t : Tok} {l : AL} {s s₀ : Shared}
/-- a store, and the heap's size -/
theorem storeZ {Ax : Around} {y : Str} {a : AV} {u : Value} {Q : Unit → Shared → Prop} (F : Fm B genv [] l s.heap) (hk : ∀ b o, B.h₀.get? b = some o → s.heap.get? b = some o) (hN : genv.scope.names = gN) (hy : gN.lookup y = some .local) (r : VR B [] a u)
    (hQ : ∀ s', Fm B genv [] (put l y a) s'.heap → (∀ b o, B.h₀.get? b = some o → s'.heap.get? b = some o) → Kp (· = genv.locals) (fun _ => False) s s' → s'.heap.objs.size = s.heap.objs.size → Q () s') : wpAny (MM B) Ax (storeName genv y u) Q never s := by
  obtain ⟨m, hn, hm⟩ := F.ns
  have hx : genv.kindOf y = some .local := by show genv.scope.names.lookup y = _; rw [hN]; exact hy
  refine wpAny_storeName_local hx hn (fun h' hn' hs' => ?_) (by rw [F.kind]; rfl)
  have hkk : ∀ b o, b ≠ genv.locals → s.heap.get? b = some o → h'.get? b = some o := fun b o hb e => (hs'.2 b hb).trans e
  refine hQ _ ⟨F.kind, F.glb, F.blt, ⟨_, hn', fun z v e hz => ?_⟩, fun z hz => absurd hz (nocell z hN), F.inj, F.locR, F.base⟩ (fun b o ho => hkk b o (fun q => by rw [q, F.base] at ho; exact nn ho) (hk b o ho)) (Kp.heapOnly fun b o hb ho => hkk b o hb ho) hs'.1
  by_cases q : z = y
  · subst q
    rw [put_get] at e
    refine res1 e ?_
    exact ⟨u, by simp, r⟩
  · rw [put_ne q] at e
    obtain ⟨w, h1, h2⟩ := hm z v e hz
    exact ⟨w, by simp only [if_neg q]; exact h1, h2⟩

theorem seg_wrapN {α : Type} {M : Model} {A : Around} {R : GenEnd} {Y : Protocol} {n : Nat} {s₀ s : Shared} {c : Code} {fs : List Frame} {m : Sem α} {K : α → Sem Fin} {H : Value → Sem Fin} {gd : Bool → Bool} {lv : List Value → List Value} (h : wpAny M (A.over c fs) m (fun a s' => Seg M A R Y n s₀ c (K a) fs s') never s) :
    Seg M A R Y n s₀ c (m.wrap K H gd lv) fs s := seg_wrap (wpAny_mono h (fun _ _ z => z) fun _ _ z => z.elim)
theorem seg_ForN {M : Model} {A : Around} {R : GenEnd} {Y : Protocol} {n : Nat} {s₀ s : Shared} {c : Code} {fs : List Frame} {env : Env} {K : Flow → Sem Fin} {H : Value → Sem Fin} {gd : Bool → Bool} {lv : List Value → List Value} {tg it : Expr} {body orelse : List Stmt} {pos : Pos} (hs : ∀ x, foldedSetIterable it env x = pure x)
    (h : wpAny M (A.over c fs) (eval it env) (fun x s₁ => wpAny M (A.over c fs) (pyIter x) (fun itV s₂ =>
      ∀ p, Seg M A R Y n s₀ (.forLoop tg itV body orelse env) (M.den (.forLoop tg itV body orelse env)) (.ret (forBack env K H gd lv) none (gd false) (lv []) c p [] :: fs) s₂) never s₁) never s) :
    Seg M A R Y n s₀ c ((exec (.For tg it body orelse pos) env).wrap K H gd lv) fs s :=
  seg_For hs (wpAny_mono h (fun _ _ z => wpAny_mono z (fun _ _ z => z) fun _ _ z => z.elim) fun _ _ z => z.elim)
theorem units_len_end (p : Nat) : unitsFrom p true [] = [[AV.int ((p : Int) - 1), AV.str ⟨#[92]⟩]] := rfl
theorem enum_glob : isGlob gN "enumerate" = true := by decide +kernel
theorem gen_func {A : Around} {tr : Bool} {gb : List Stmt} {us : List (List AV)} (G : Gd B) (hN : genv.scope.names = gN) (hco : genv.scope.isCoroutine = false) (sh : GShape gb) (hus : us = unitsFrom 0 false x.cps.toList) (htr : escEnd false x.cps.toList = tr)
    (F : Fm B genv [] l s.heap) (hl : l "addr" = some (.str x)) (keep : ∀ b o, B.h₀.get? b = some o → s.heap.get? b = some o) (ft : Fit 4 (A.over (.func gb genv) [])) (ft' : ∀ tg itV body kk pp, Fit 4 (A.over (.forLoop tg itV body [] genv) [.ret kk none false [] (.func gb genv) pp []]))
    (kp : Kp (gW genv.locals s.heap.objs.size (s.heap.objs.size + 1)) (fun _ => False) s₀ s) :
    Seg (MM B) A (gR (gW genv.locals s.heap.objs.size (s.heap.objs.size + 1)) tr) (gY B (gW genv.locals s.heap.objs.size (s.heap.objs.size + 1)) tr us) us.length s₀ (.func gb genv) ((MM B).den (.func gb genv)) [] s := by
  obtain rfl := (sh : gb = gBOf gq gk)
  have g4 := ev_good0 G 4
  have hh := ft.handled
  have new : ∀ c, s.heap.objs.size ≤ c → s.heap.get? c = none := fun c hc => by
    cases e : s.heap.get? c with
    | none => rfl
    | some o => exact absurd (Heap.lt_size e) (Nat.not_lt.mpr hc)
  have newB : ∀ c, s.heap.objs.size ≤ c → B.h₀.get? c = none := fun c hc => by
    cases e : B.h₀.get? c with
    | none => rfl
    | some o => have := keep c o e; rw [new c hc] at this; cases this
  have hL : genv.locals < s.heap.objs.size := by
    obtain ⟨m, ⟨o, _, _, ho, _⟩, _⟩ := F.ns
    exact Heap.lt_size ho
  have st : GSt B genv s.heap.objs.size (s.heap.objs.size + 1) := ⟨hN, hco, Nat.succ_ne_self _, Nat.ne_of_lt hL, Nat.ne_of_lt (Nat.lt_succ_of_lt hL), newB _ (Nat.le_refl _), newB _ (Nat.le_succ _)⟩
  generalize hW : s.heap.objs.size = Z at *
  have wL : ∀ {a b : Shared}, Kp (· = genv.locals) (fun _ => False) a b → Kp (gW genv.locals Z (Z + 1)) (fun _ => False) a b := fun k => ⟨fun b o hb ho => k.heap b o (fun q => hb (.inl q)) ho, k.gens, k.bare, k.os⟩
  refine seg_func (seg_execs_cons ?_)
  refine seg_wrapN (wpAny_Assign_Name (wpAny_Constant_int (storeZ (y := "pos") (s := { s with toks := s.toks + 1 }) F keep hN (by decide +kernel) (.int 0 s.toks) fun s1 F1 kp1 k1 z1 => ?_)) (by rfl))
  have k01 : Kp (gW genv.locals Z (Z + 1)) (fun _ => False) s₀ s1 := kp.trans ((Kp.heapOnly (s := s) (h' := s.heap) (tk := s.toks + 1) fun _ _ _ h => h).trans (wL k1))
  refine seg_execs_cons (seg_wrapN (wpAny_Assign_Name (wpAny_Constant_bool (storeZ (y := "escape") F1 kp1 hN (by decide +kernel) (.bool false) fun s2 F2 kp2 k2 z2 => ?_)) (by rfl)))
  have k02 := k01.trans (wL k2)
  have hZ : s2.heap.objs.size = Z := by rw [z2, z1]; exact hW
  have ha2 : put (put l "pos" (.int 0)) "escape" (.bool false) "addr" = some (.str x) := by
    rw [put_ne (by decide +kernel), put_ne (by decide +kernel)]; exact hl
  have he2 : put (put l "pos" (.int 0)) "escape" (.bool false) "escape" = some (.bool false) := put_get
  generalize put (put l "pos" (.int 0)) "escape" (.bool false) = l2 at F2 ha2 he2
  refine seg_execs_cons (seg_ForN (fun _ => rfl) ?_)
  have eb : bval "enumerate" = some (.type "enumerate") := by decide +kernel
  refine wpAny_mono (Q := fun v s' => v = .ref (Z + 1) ∧ ∃ (t' : Tok) (h' : Heap), s' = { s2 with heap := h' } ∧ IsEnum h' (Z + 1) Z 0 .none ∧ h'.IsStrIter Z (strIterType x) x t' 0 ∧ ∀ b o, s2.heap.get? b = some o → h'.get? b = some o) (E := never) ?_ (fun v s' z => ?_) fun _ _ z => z
  · refine name_call rfl (glob_ok (H := []) (N := gN) G F2 (st_nil kp2) hN enum_glob (fv := .type "enumerate") (by unfold gval; rw [eb]) ?_)
    refine PySem.callWith_type (any_star _) (evalArgs_plain (spliced_cons (wpAny_Name (F2.load (by rw [hN]; exact gname _ (.inr (.inr (.inr rfl)))) ha2 fun u r => ?_) (by decide +kernel))))
    obtain ⟨t', rfl⟩ := r.strI
    refine spliced_nil ?_
    refine call_enumerate_str fun h' he hi hz hk => ?_
    rw [hZ] at he hi
    exact ⟨by rw [hZ], t', h', rfl, he, hi, hk⟩
  obtain ⟨rfl, t', h', rfl, hen, hit, hkh⟩ := z
  refine (enum_walks (B := B) hh x t' st.hei).self 0 _ _ _ ⟨⟨_, hen⟩, hit⟩ fun pp => ?_
  subst hus
  have hk3 : Kp (gW genv.locals Z (Z + 1)) (fun _ => False) s₀ { s2 with heap := h' } := k02.trans (Kp.heapOnly (tk := s2.toks) fun b o _ ho => hkh b o ho)
  refine gen_loop G st (ft' ..) (fun esc l4 s4 s5 t5 F5 e5 p5 kp5 k5 hu5 => ?_) x.cps.toList 0 false l2 s₀ { s2 with heap := h' } rfl (Nat.zero_le _) htr ⟨fm_at F2 hN fun o ho => hkh _ o ho, fun b o ho => hkh b o (kp2 b o ho), ⟨_, hen⟩, hit⟩ he2 (fun h => by exact ff h) hk3 ⟨[], rfl⟩
  -- behind the loop
  show Seg _ _ _ _ _ _ _ ((execs [.If (.Name "escape" (gq 37)) [.Expr (.Yield (some (.Tuple [.Name "pos" (gq 38), .Constant (.str "\\") (gk 9) (gq 39)] (gk 10) (gq 40))) (gq 41)) (gq 42)] [] (gq 43)] genv).wrap _ _ id id) [] s5
  refine seg_execs_cons (seg_If (wpAny_mono (gtest_ok G g4.e ft hN (test_name (B := B) (n := 3) (gname _ (.inr (.inl rfl))) e5) F5 kp5) (fun q s6 z => ?_) fun _ _ z => z.elim))
  obtain ⟨rfl, k6⟩ := z
  have F6 : Fm B genv [] l4 s6.heap := fm_at F5 hN (fun o => k6.all _ o)
  have kp6 : ∀ b o, B.h₀.get? b = some o → s6.heap.get? b = some o := fun b o ho => k6.all b o (kp5 b o ho)
  have k06 := k5.trans (k6.wide (W := gW genv.locals Z (Z + 1)))
  cases q with
  | true =>
    rw [if_pos rfl]
    obtain ⟨pre, hu⟩ := hu5
    refine seg_execs_cons (seg_y (m := 0) g4.e ft st (y3_is B.ns (n := 2) (p5 rfl)) F6 kp6 k06 ?_ (fun b hb => absurd ⟨rfl, t5.symm⟩ hb.2) rfl rfl fun s7 s8 m7 fz => ?_)
    · exact us_at (r := []) hu
    · exact seg_end (.ok (.ret .none)) ⟨rfl, rfl, .refl⟩
  | false =>
    rw [if_neg Bool.false_ne_true]
    exact seg_end (.ok (.ret .none)) ⟨rfl, rfl, ⟨fun b o hb ho => k06.heap b o (fun q => hb ⟨q, fun z => by rw [← t5] at z; cases z.2⟩) ho, k06.gens, k06.bare, k06.os⟩⟩
end
end Mine
end
section
/-! The generator as an iterator. -/
namespace Mine
open PySem PySem.Spec PySem.Calls PyProof.Rows
set_option maxRecDepth 100000

theorem letGo_gen {M : Model} {A : Around} {E : Value → Shared → Prop} {s : Shared} {elts : List Expr} {k : Nat} {pos : Pos} {a T : Addr} {g : Nat} {Q : Unit → Shared → Prop} (hg : s.heap.IsGen a g) (hQ : Q () s) :
    wpAny M A (letOwnedTupleGo (.Tuple elts k pos) (.ref a) (.ref T)) Q E s := by
  refine hide fun hG hF => ?_
  obtain ⟨o, nm, qn, ho, hc, hd, hsl⟩ := hg
  refine hF ?_
  clear hF hG
  unfold letOwnedTupleGo
  refine wpAny_bind (wpAny_load ho ?_)
  rw [hc, hd]
  show wpAny _ A (if (["enumerate", "zip", "dict_itemiterator", "dict_reverseitemiterator", "odict_iterator", "itertools.zip_longest", "itertools.pairwise"].contains "generator" && _) = true then _ else _) Q E s
  rw [if_neg (by simp)]
  exact wpAny_pure hQ
theorem pyNext_genB {prog : Program} {w : World} {A : Around} {E : Value → Shared → Prop} {s : Shared} {a : Addr} {g n : Nat} {gs : GenState} {P : Nat → Shared → Shared → Prop} {Y : Protocol} {Q : Option Value → Shared → Prop} (hh : A.handled = none)
    (hl : s.heap.NoLimit) (hroom : A.depth < recursionLimit) (hg : s.heap.IsGen a g) (hgs : s.gens[g]? = some gs)
    (hgo : gs.Goes (model prog w) A.in1 (fun n s₀ r s₁ => r = .ok (.ret .none) ∧ P n s₀ s₁) Y n (.send .none) (s.setGen g .running))
    (hY : ∀ v s₁ gs', gs'.bare = true → Y (n - 1) (s.setGen g .running) v s₁ (fun r' s'' => match n with
        | 0 => False
        | m + 1 => gs'.Goes (model prog w) A.in1 (fun n s₀ r s₁ => r = .ok (.ret .none) ∧ P n s₀ s₁) Y m r' s'') → Q (some v) (s₁.setGen g gs'))
    (hP : ∀ s₁, P n (s.setGen g .running) s₁ → ∀ h', (∀ b o, s₁.heap.get? b = some o → h'.get? b = some o) → Q none { s₁.setGen g .finished with heap := h' }) :
    wpAny (model prog w) A (pyNext (.ref a)) Q E s := by
  unfold pyNext
  refine wpAny_bind (wpAny_attempt (wpAny_callSpecial?_slot (name := Str.ofString "__next__") hg.typeIs slot_gen_next (wpAny_call_entry slot_gen_next hg.typeIs entry_gen_next ?_ (args_gen_next _))))
  show wpAny _ A.in1 (Builtin.Generator.genWake (.ref a) (.send .none)) _ _ s
  unfold Builtin.Generator.genWake
  refine wpAny_bind (wpAny_holding (wpAny_genNumber hg (wpAny_bind (wpAny_genState hgs ?_))))
  cases gs with
  | running => exact hgo.elim
  | finished => exact hgo.elim
  | _ =>
    refine wpAny_bind (wpAny_roomToWake hl hroom ?_)
    show wpAny _ A.in1 (.resume g (.send .none) [] _) _ _ s
    refine wpAny_resumeQ hgs hgo (fun x s₁ hx => ?_) (fun v s₁ gs' hb hv => ?_)
    · obtain ⟨rfl, hp⟩ := hx
      show wpAny _ A.in1 (newExc (.type "StopIteration") [] >>= _) _ _ _
      refine wpAny_bind ?_
      simp only [newExc, newTuple]
      refine wpAny_bind (wpAny_newObj_type ?_ (by size_fits))
      refine wpAny_bind (m := firstArgMember _ _) (wpAny_of_eq (a := Value.none) (by first | rfl | (simp only [firstArgMember]; rfl)) ?_)
      refine wpAny_newObj_type ?_ (by size_fits)
      simp only [raiseNew]
      refine wpAny_bind (wpAny_bind (wpAny_handled ?_))
      first | rw [show A.in1.handled = none from hh] | rw [hh]
      refine wpAny_throw ?_
      refine wpAny_bind (wpAny_isInstance (T := "StopIteration") (b := true) ⟨_, Heap.get?_push_size _ rfl, rfl⟩ isSubtype_stop ?_)
      exact wpAny_pure (hP s₁ hp _ fun b o hb => Heap.get?_push_of_some _ (Heap.get?_push_of_some _ hb))
    · exact wpAny_pure ⟨v, rfl, wpAny_pure (hY v s₁ gs' hb hv)⟩

theorem setGen_get {s : Shared} {g i : Nat} {y : GenState} (h : i ≠ g) : (s.setGen g y).gens[i]? = s.gens[i]? := by simp [Shared.setGen, Ne.symm h]
theorem bare_set {s : Shared} {g : Nat} {y : GenState} (h : AllBare s.gens) (hy : y.bare = true) : AllBare (s.setGen g y).gens := fun z hz => by
  obtain ⟨i, hi⟩ := List.getElem?_of_mem (Array.mem_toList_iff.mpr hz)
  rw [Array.getElem?_toList] at hi
  by_cases q : i = g
  · subst q
    have hlt : i < (s.setGen i y).gens.size := (Array.getElem?_eq_some_iff.mp hi).1
    have hlt' : i < s.gens.size := by simpa [Shared.setGen] using hlt
    have : (s.setGen i y).gens[i]? = some y := by simp [Shared.setGen, hlt']
    rw [this] at hi; refine res1 hi ?_; exact hy
  · rw [setGen_get q] at hi
    exact h z (Array.mem_of_getElem? hi)
section
variable {B : Bs} {A : Around} {env genv : Env} {gb : List Stmt} {x : Str} {a : Addr} {g : Nat} {s₀ : Shared}
noncomputable abbrev gUs (x : Str) : List (List AV) := unitsFrom 0 false x.cps.toList
noncomputable abbrev gTr (x : Str) : Bool := escEnd false x.cps.toList
/-- what stays of a generator and its reader -/
structure GCo (B : Bs) (A : Around) (genv : Env) (gb : List Stmt) (a : Addr) (g : Nat) (s₀ : Shared) : Prop where
  names : genv.scope.names = gN
  co : genv.scope.isCoroutine = false
  sh : GShape gb
  aL : a ≠ genv.locals
  fa : s₀.heap.get? a = none
  fL : s₀.heap.get? genv.locals = none
  fg : s₀.gens[g]? = none
  fit : Fit 5 A
  kb : ∀ b o, B.h₀.get? b = some o → s₀.heap.get? b = some o
inductive GK (B : Bs) (A : Around) (env genv : Env) (gb : List Stmt) (x : Str) (a : Addr) (g : Nat) (s₀ : Shared) (ρ : List Addr) (i : Nat) (s : Shared) : Prop
  | fresh (hi : i = 0) (hgs : s.gens[g]? = some (.fresh (.func gb genv))) (off : Off B env ρ (fun b => b = a ∨ b = genv.locals)) (l : AL) (F : Fm B genv [] l s.heap) (hl : l "addr" = some (.str x))
  | goes (Z : Addr) (gs : GenState) (h1 : ¬ gW genv.locals Z (Z + 1) a) (h2 : ∀ b, gW genv.locals Z (Z + 1) b → s₀.heap.get? b = none) (off : Off B env ρ (fun b => b = a ∨ Wn (gW genv.locals Z (Z + 1)) (gTr x) ((gUs x).length - i) b))
      (h3 : ∀ b, Wn (gW genv.locals Z (Z + 1)) (gTr x) ((gUs x).length - i) b → ∃ o, s.heap.get? b = some o) (hgs : s.gens[g]? = some gs)
      (hgo : ∀ s'', Frz B (Wn (gW genv.locals Z (Z + 1)) (gTr x) ((gUs x).length - i)) s s'' → gs.Goes (MM B) A.in1 (gR (gW genv.locals Z (Z + 1)) (gTr x)) (gY B (gW genv.locals Z (Z + 1)) (gTr x) (gUs x)) ((gUs x).length - i) (.send .none) s'')
structure GJ (B : Bs) (A : Around) (env genv : Env) (gb : List Stmt) (x : Str) (a : Addr) (g : Nat) (s₀ : Shared) (ρ : List Addr) (i : Nat) (s : Shared) : Prop where
  hg : s.heap.IsGen a g
  hal : ∀ b o, s₀.heap.get? b = some o → ∃ o', s.heap.get? b = some o'
  k : GK B A env genv gb x a g s₀ ρ i s
inductive GR (B : Bs) (A : Around) (env genv : Env) (x : Str) (a : Addr) (g : Nat) (s₀ : Shared) (ρ : List Addr) (i : Nat) (s : Shared) : Prop
  | mk (Z : Addr) (gs : GenState) (h1 : ¬ gW genv.locals Z (Z + 1) a) (h2 : ∀ b, gW genv.locals Z (Z + 1) b → s₀.heap.get? b = none) (off : Off B env ρ (fun b => b = a ∨ (Wn (gW genv.locals Z (Z + 1)) (gTr x) ((gUs x).length - i) b ∧ ∃ o, s.heap.get? b = some o))) (hgs : s.gens[g]? = some gs)
      (hgo : gs.Goes (MM B) A.in1 (gR (gW genv.locals Z (Z + 1)) (gTr x)) (gY B (gW genv.locals Z (Z + 1)) (gTr x) (gUs x)) ((gUs x).length - i) (.send .none) (s.setGen g .running))
theorem fit_gen (h : Fit 5 A) : Fit 4 (A.in1.over (.func gb genv) []) := ⟨h.handled, by
  have := h.depth
  show A.depth + 0 + (Code.func gb genv).weight + _ ≤ _
  have : (Code.func gb genv).weight = 1 := rfl
  omega, by
  have := h.units
  show A.units + 1 + 0 + (Code.func gb genv).cUnits + _ ≤ _
  have : (Code.func gb genv).cUnits = 3 := rfl
  omega⟩
theorem fit_gen' (h : Fit 5 A) (tg : Expr) (itV : Value) (body : List Stmt) (kk : Result → Sem Fin) (pp : Pos) : Fit 4 (A.in1.over (.forLoop tg itV body [] genv) [.ret kk none false [] (.func gb genv) pp []]) := ⟨h.handled, by
  have := h.depth
  show A.depth + ((Code.func gb genv).weight + 0) + (Code.forLoop tg itV body [] genv).weight + _ ≤ _
  have : (Code.func gb genv).weight = 1 := rfl
  have : (Code.forLoop tg itV body [] genv).weight = 0 := rfl
  omega, by
  have := h.units
  show A.units + 1 + ((Code.func gb genv).cUnits + 0) + (Code.forLoop tg itV body [] genv).cUnits + _ ≤ _
  have : (Code.func gb genv).cUnits = 3 := rfl
  have : (Code.forLoop tg itV body [] genv).cUnits = 0 := rfl
  omega⟩

theorem units_pair : ∀ (r : List Nat) (p : Nat) (e : Bool) (q : List AV), q ∈ unitsFrom p e r → ∃ i y, q = [AV.int i, AV.str y]
  | [], p, true, q, h => by rw [units_len_end] at h; exact ⟨_, _, List.mem_singleton.mp h⟩
  | [], p, false, q, h => by simp [unitsFrom] at h
  | c :: r, p, true, q, h => by
    unfold unitsFrom at h
    rcases List.mem_cons.mp h with h | h
    · exact ⟨_, _, h⟩
    · exact units_pair r _ _ q h
  | c :: r, p, false, q, h => by
    unfold unitsFrom at h
    split at h
    · exact units_pair r _ _ q h
    · rcases List.mem_cons.mp h with h | h
      · exact ⟨_, _, h⟩
      · exact units_pair r _ _ q h
theorem gj_ready {ρ : List Addr} {H : AH} {i : Nat} {s : Shared} (G : Gd B) (C : GCo B A genv gb a g s₀) (j : GJ B A env genv gb x a g s₀ ρ i s) (S : St B ρ H s.heap) :
    GR B A env genv x a g s₀ ρ i s := by
  obtain ⟨hg, hal, h⟩ := j
  rcases h with ⟨rfl, hgs, off, l, F, hl⟩ | ⟨Z, gs, h1, h2, off, h3, hgs, hgo⟩
  · have new : ∀ c, s.heap.objs.size ≤ c → s.heap.get? c = none := fun c hc => by
      cases e : s.heap.get? c with
      | none => rfl
      | some o => exact absurd (Heap.lt_size e) (Nat.not_lt.mpr hc)
    have new0 : ∀ c, s.heap.objs.size ≤ c → s₀.heap.get? c = none := fun c hc => by
      cases e : s₀.heap.get? c with
      | none => rfl
      | some o => obtain ⟨o', e'⟩ := hal c o e; rw [new c hc] at e'; exact nn e'
    have ha : a < s.heap.objs.size := by obtain ⟨o, _, _, ho, _⟩ := hg; exact Heap.lt_size ho
    refine ⟨s.heap.objs.size, _, ?_, ?_, ?_, hgs, rfl, ?_⟩
    · rintro (q | q | q)
      · exact C.aL q
      · rw [q] at ha; exact Nat.lt_irrefl _ ha
      · rw [q] at ha; exact absurd ha (Nat.not_lt.mpr (Nat.le_succ _))
    · rintro b (q | q | q)
      · rw [q]; exact C.fL
      · rw [q]; exact new0 _ (Nat.le_refl _)
      · rw [q]; exact new0 _ (Nat.le_succ _)
    · have sub : ∀ b, (b = a ∨ (Wn (gW genv.locals s.heap.objs.size (s.heap.objs.size + 1)) (gTr x) ((gUs x).length - 0) b ∧ ∃ o, s.heap.get? b = some o)) → b = a ∨ b = genv.locals := fun b hb => by
        rcases hb with q | ⟨⟨q, _⟩, o, ho⟩
        · exact .inl q
        · rcases q with q | q | q
          · exact .inr q
          · rw [q, new _ (Nat.le_refl _)] at ho; exact nn ho
          · rw [q, new _ (Nat.le_succ _)] at ho; exact nn ho
      exact ⟨fun b hb q => off.ref b hb (sub b q), fun b hb q => off.own b hb (sub b q), fun b o hb q => off.base b o hb (sub b q)⟩
    · exact gen_func (s := s.setGen g .running) G C.names C.co C.sh rfl rfl F hl S.keep (fit_gen C.fit) (fit_gen' C.fit) .refl
  · refine ⟨Z, gs, h1, h2, ⟨fun b hb q => off.ref b hb ?_, fun b hb q => off.own b hb ?_, fun b o hb q => off.base b o hb ?_⟩, hgs, hgo _ ⟨fun b o _ e => e, S.keep⟩⟩ <;>
    · rcases q with q | q
      · exact .inl q
      · exact .inr q.1
theorem setGen_size {s : Shared} {y : GenState} : (s.setGen g y).gens.size = s.gens.size := by simp [Shared.setGen]
theorem gen_ix {tg : Expr} (G : Gd B) (C : GCo B A genv gb a g s₀) (ht : isPairTarget tg = true) : IX B A env tg (.ref a) (gUs x) (fun _ => true) s₀ (GJ B A env genv gb x a g s₀) where
  self := fun ρ H i s j S _ => wpAny_pyIter_gen j.1 ⟨rfl, rfl⟩
  move := fun ρ ρ' i s s' j e => by
    obtain ⟨hg, hal, h⟩ := j
    have hal' : ∀ b o, s₀.heap.get? b = some o → ∃ o', s'.heap.get? b = some o' := fun b o q => let ⟨o', q'⟩ := hal b o q; e.alive b o' q'
    rcases h with ⟨rfl, hgs, off, l, F, hl⟩ | ⟨Z, gs, h1, h2, off, h3, hgs, hgo⟩
    · have kept : ∀ b o, (b = a ∨ b = genv.locals) → s.heap.get? b = some o → s'.heap.get? b = some o := fun b o hb ho => e.kept b o ho (fun hm => off.ref b hm hb) fun q => off.own b q hb
      have alive : ∀ b, (b = a ∨ b = genv.locals) → ∃ o, s.heap.get? b = some o := fun b hb => by
        rcases hb with q | q
        · obtain ⟨o, _, _, ho, _⟩ := hg; exact ⟨o, q ▸ ho⟩
        · obtain ⟨m, ⟨o, _, _, ho, _⟩, _⟩ := F.ns; exact ⟨o, q ▸ ho⟩
      exact ⟨let ⟨o, nm, qn, ho, r⟩ := hg; ⟨o, nm, qn, kept a o (.inl rfl) ho, r⟩, hal', .fresh rfl (e.gens g _ hgs) (off_move off e alive) l (fm_at F C.names fun o ho => kept _ o (.inr rfl) ho) hl⟩
    · have kept : ∀ b o, (b = a ∨ Wn (gW genv.locals Z (Z + 1)) (gTr x) ((gUs x).length - i) b) → s.heap.get? b = some o → s'.heap.get? b = some o := fun b o hb ho => e.kept b o ho (fun hm => off.ref b hm hb) fun q => off.own b q hb
      have alive : ∀ b, (b = a ∨ Wn (gW genv.locals Z (Z + 1)) (gTr x) ((gUs x).length - i) b) → ∃ o, s.heap.get? b = some o := fun b hb => by
        rcases hb with q | q
        · obtain ⟨o, _, _, ho, _⟩ := hg; exact ⟨o, q ▸ ho⟩
        · exact h3 b q
      exact ⟨let ⟨o, nm, qn, ho, r⟩ := hg; ⟨o, nm, qn, kept a o (.inl rfl) ho, r⟩, hal', .goes Z gs h1 h2 (off_move off e alive) (fun b hb => let ⟨o, ho⟩ := h3 b hb; e.alive b o ho) (e.gens g _ hgs)
        (fun s'' fz => hgo s'' ⟨fun b o hb ho => fz.1 b o hb (kept b o (.inr hb) ho), fz.2⟩)⟩
  item := fun ρ H i s p j S al _ hi => by
    refine hide fun hG hF => ?_
    obtain ⟨Z, gs, h1, h2, off, hgs, hgo⟩ := gj_ready G C j S
    obtain ⟨hg, hal, _⟩ := j
    refine hF ?_
    clear hF hG
    have hlt : i < (gUs x).length := (List.getElem?_eq_some_iff.mp hi).1
    obtain ⟨m, hm⟩ : ∃ m, (gUs x).length - i = m + 1 := ⟨(gUs x).length - i - 1, by omega⟩
    rw [hm] at hgo off
    have hg' : s.gens[g]? = some gs := hgs
    refine pyNext_genB (P := fun n s₀ s₁ => n = 0 ∧ Kp (Wn (gW genv.locals Z (Z + 1)) (gTr x) 0) (fun _ => False) s₀ s₁) C.fit.handled (G.nolimit.keeps S.keep) (by have := C.fit.depth; show A.depth < 1000; omega) hg hgs hgo (fun v s₁ gs' hb hv => ?_) (fun s₁ hp h' hk => ?_)
    · refine hide fun hG hF => ?_
      obtain ⟨⟨q, hq, hI⟩, kp, hal1, hkap⟩ := hv
      refine hF ?_
      clear hF hG
      have hidx : (gUs x).length - 1 - (m + 1 - 1) = i := by omega
      rw [hidx, hi] at hq
      cases hq
      refine ⟨v, rfl, ?_⟩
      have hgen : (s₁.setGen g gs').heap.IsGen a g := let ⟨o, nm, qn, ho, r⟩ := hg; ⟨o, nm, qn, kp.heap a o h1 ho, r⟩
      have run1 : (s.setGen g .running).gens[g]? = some .running := setGen_self hgs
      have run2 : s₁.gens[g]? = some .running := kp.gens g _ (fun h => h) run1
      have wr : Stp B env s₀ ρ s (s₁.setGen g gs') := by
        refine ⟨fun b => gW genv.locals Z (Z + 1) b ∧ ∃ o, s.heap.get? b = some o, (· = g), ⟨fun b hb q => off.ref b hb (.inr ⟨⟨q.1, fun z => by cases z.1⟩, q.2⟩), fun b hb q => off.own b hb (.inr ⟨⟨q.1, fun z => by cases z.1⟩, q.2⟩), fun b o hb q => off.base b o hb (.inr ⟨⟨q.1, fun z => by cases z.1⟩, q.2⟩)⟩, fun b o ho q => ?_, fun k y hk q => ?_, ⟨fun b o hb ho => ?_, fun k y hk hy => ?_, fun hbare => ?_, ?_⟩⟩
        · rw [h2 b q.1] at ho; exact nn ho
        · have q' : k = g := q
          rw [q', C.fg] at hk; exact nn hk
        · exact kp.heap b o (fun q => hb ⟨q, o, ho⟩) ho
        · rw [setGen_get hk]
          exact kp.gens k y (fun h => h) (by rw [setGen_get hk]; exact hy)
        · exact bare_set (kp.bare (bare_set hbare rfl)) hb
        · exact kp.os
      have jn : GJ B A env genv gb x a g s₀ ρ (i + 1) (s₁.setGen g gs') := by
        have hlen : (gUs x).length - (i + 1) = m := by omega
        refine ⟨hgen, fun b o ho => ?_, .goes Z gs' h1 h2 ?_ ?_ (setGen_self run2) ?_⟩
        · obtain ⟨o', ho'⟩ := hal b o ho
          exact ⟨o', kp.heap b o' (fun q => by rw [h2 b q] at ho; exact nn ho) ho'⟩
        · rw [hlen]
          have wid : ∀ b, (∃ o, s.heap.get? b = some o) → (b = a ∨ Wn (gW genv.locals Z (Z + 1)) (gTr x) m b) → b = a ∨ (Wn (gW genv.locals Z (Z + 1)) (gTr x) (m + 1) b ∧ ∃ o, s.heap.get? b = some o) := fun b hb q => by
            rcases q with q | q
            · exact .inl q
            · exact .inr ⟨⟨q.1, fun z => by cases z.1⟩, hb⟩
          exact ⟨fun b hb q => off.ref b hb (wid b (S.aliveAt hb) q), fun b hb q => off.own b hb (wid b (al b hb) q), fun b o hb q => off.base b o hb (wid b ⟨o, S.keep b o hb⟩ q)⟩
        · rw [hlen]; exact hal1
        · rw [hlen]
          intro s'' fz
          exact hkap s'' fz
      refine hide fun hG hF => ?_
      obtain ⟨iv, yv, rfl⟩ := units_pair _ _ _ _ (List.mem_of_getElem? hi)
      obtain ⟨T, u1, u2, rfl, e2, e3, e4⟩ := hI
      refine hF ?_
      clear hF hG
      obtain ⟨ts, tn, tp, rfl⟩ : ∃ ts tn tp, tg = .Tuple ts tn tp := by
        exact pair_inv ht
      exact letGo_gen hgen ⟨wr, jn, T, u1, u2, rfl, e2, e3.mono List.nil_prefix, e4.mono List.nil_prefix⟩
    · exact absurd hp.1 (Nat.succ_ne_zero m)
  done := fun ρ H s j S al _ => by
    refine hide fun hG hF => ?_
    obtain ⟨Z, gs, h1, h2, off, hgs, hgo⟩ := gj_ready G C j S
    obtain ⟨hg, hal, _⟩ := j
    refine hF ?_
    clear hF hG
    rw [Nat.sub_self] at hgo off
    refine pyNext_genB (P := fun n s₀ s₁ => n = 0 ∧ Kp (Wn (gW genv.locals Z (Z + 1)) (gTr x) 0) (fun _ => False) s₀ s₁) C.fit.handled (G.nolimit.keeps S.keep) (by have := C.fit.depth; show A.depth < 1000; omega) hg hgs hgo (fun v s₁ gs' hb hv => ?_) (fun s₁ hp h' hk => ?_)
    · exact False.elim (hv.2.2.2 s₁ ⟨fun b o _ e => e, fun b o e => hv.2.1.heap b o (fun q => by have := C.kb b o e; rw [h2 b q] at this; cases this) (S.keep b o e)⟩)
    · obtain ⟨_, kp⟩ := hp
      refine ⟨rfl, fun b => Wn (gW genv.locals Z (Z + 1)) (gTr x) 0 b ∧ ∃ o, s.heap.get? b = some o, (· = g), ⟨fun b hb q => off.ref b hb (.inr q), fun b hb q => off.own b hb (.inr q), fun b o hb q => off.base b o hb (.inr q)⟩, fun b o ho q => ?_, fun k y hk q => ?_, ⟨fun b o hb ho => ?_, fun k y hk hy => ?_, fun hbare => ?_, ?_⟩⟩
      · rw [h2 b q.1.1] at ho; exact nn ho
      · have q' : k = g := q
        rw [q', C.fg] at hk; exact nn hk
      · exact hk b o (kp.heap b o (fun q => hb ⟨q, o, ho⟩) ho)
      · show (s₁.setGen g .finished).gens[k]? = some y
        rw [setGen_get hk]
        exact kp.gens k y (fun h => h) (by rw [setGen_get hk]; exact hy)
      · exact bare_set (s := s₁) (kp.bare (bare_set hbare rfl)) rfl
      · exact kp.os
end
end Mine
end
section
/-! A call of the generator; the evaluator is sound. -/
namespace Mine
open PySem PySem.Spec PySem.Calls PyProof.Rows
set_option maxRecDepth 100000

theorem gN_cell : ∀ q ∈ gN, q.2 ≠ .cell := by decide +kernel
theorem gN_addr : gN.lookup (Str.ofString "addr") = some .local := by decide +kernel
theorem gi_ok {B : Bs} (G : Gd B) (n : Nat) (hn : 5 ≤ n) : GI B n := by
  intro A env l ρ H s tg x t ft ht F S
  refine hide fun hG hF => ?_
  obtain ⟨o, fd, gb, N, hg, ho, hd, hcd, hb, hnm, hclo, hglb, hblt, hk, hco, hgen, hbind⟩ := G.gen
  refine hF ?_
  clear hF hG
  have hg' := gshape2
  rw [hg] at hg'
  obtain ⟨sh, rfl⟩ : gb = gBOf gq gk ∧ N = gN := by
    injection hg' with hg'
    injection hg' with h1 h2
    exact ⟨h1, h2⟩
  refine wpAny_call (codeAny_call_generator (by have := ft.depth; show A.depth < 1000; omega) (S.keep 101 o ho) hd hco hgen hb (hcd.keeps S.keep) ?_)
  rw [hbind, hclo]
  refine wpAny_pure (wpAny_newFunctionEnv (by rw [hnm]; exact gN_cell) (fun y hy => ?_) (fun h' hns hsb => ?_) hk)
  · rw [List.mem_singleton.mp hy, hnm]; exact gN_addr
  · have kn : ∀ b o, s.heap.get? b = some o → h'.get? b = some o := fun b o e => hsb.extBut b o (Nat.ne_of_lt (Heap.lt_size e)) (Heap.get?_push_of_some _ e)
    have new : ∀ c, s.heap.objs.size ≤ c → s.heap.get? c = none := fun c hc => by
      cases e : s.heap.get? c with
      | none => rfl
      | some o => exact absurd (Heap.lt_size e) (Nat.not_lt.mpr hc)
    have sz : h'.objs.size = s.heap.objs.size + 1 := by rw [hsb.1, Heap.size_push]
    refine ⟨(G.nolimit.keeps S.keep).keeps kn, ?_⟩
    generalize hge : newEnv fd.scope s.heap.objs.size fd.globals [] (fd.qualname ++ ".<locals>.") (some 101) fd.code none fd.builtins = genv
    have eL : genv.locals = s.heap.objs.size := by rw [← hge]; rfl
    have eN : genv.scope.names = gN := by rw [← hge]; exact hnm
    refine wpAny_pyIter_gen (g := s.gens.size) ⟨_, _, _, Heap.get?_push_size _ rfl, rfl, rfl, rfl⟩ ?_
    generalize hgo : ({ cls := .type "generator", data := .fields #[.int s.gens.size 0, .str fd.name (s.toks + [(Str.ofString "addr", Value.str x t)].length), .str fd.qualname (s.toks + [(Str.ofString "addr", Value.str x t)].length + 1)] } : Obj) = go
    have gfree : go.isFreed = false := by rw [← hgo]; rfl
    have gis : ∃ nm qn, go.cls = .type "generator" ∧ go.data = .fields #[.int s.gens.size 0, nm, qn] ∧ go.slots = #[] := by rw [← hgo]; exact ⟨_, _, rfl, rfl, rfl⟩
    obtain ⟨nm, qn, gis⟩ := gis
    have kp : ∀ b o, s.heap.get? b = some o → (h'.push go).get? b = some o := fun b o e => Heap.get?_push_of_some _ (kn b o e)
    have ga : (h'.push go).get? h'.objs.size = some go := Heap.get?_push_size _ gfree
    have hn0 : h'.Ns genv.locals (fun y => [(Str.ofString "addr", Value.str x t)].reverse.lookup y) := by rw [eL]; exact hns
    refine hide fun hG hF => ?_
    obtain ⟨oL, eLs, eLp, hoL, hLr⟩ := id hn0
    refine hF ?_
    clear hF hG
    have ha0 : s.heap.get? h'.objs.size = none := new _ (by rw [sz]; exact Nat.le_succ _)
    have hL0 : s.heap.get? genv.locals = none := by rw [eL]; exact new _ (Nat.le_refl _)
    have x1 : Ext ρ noO s ρ { s with gens := s.gens.push (.fresh (.func gb genv)), toks := s.toks + [(Str.ofString "addr", Value.str x t)].length + 1 + 1, heap := h'.push go } :=
      ⟨List.prefix_rfl, fun _ h => .inl h, fun b o e _ _ => kp b o e, fun b o e => ⟨o, kp b o e⟩, fun i y e => by
        have hlt := (Array.getElem?_eq_some_iff.mp e).1
        show (s.gens.push _)[i]? = _
        rw [Array.getElem?_push_lt hlt] 
        rw [← e, Array.getElem?_eq_getElem hlt], fun h => h.push rfl, rfl⟩
    have Fg : Fm B genv [] (put (fun _ => none) "addr" (.str x)) (h'.push go) := by
      refine ⟨by rw [← hge]; exact hk, by rw [← hge]; exact hglb, by rw [← hge]; exact hblt, ⟨_, hn0.keeps fun b o e => Heap.get?_push_of_some _ e, fun y v e hy => ?_⟩, fun y hy => absurd hy (nocell y eN), fun y z c h1 h2 => ?_, fun h => (nomatch h), ?_⟩
      · by_cases q : y = "addr"
        · subst q
          rw [put_get] at e
          refine res1 e ?_
          exact ⟨.str x t, by simp, .str x t⟩
        · rw [put_ne q] at e; exact nn e
      · have : genv.cells = [] := by rw [← hge]; rfl
        rw [this] at h1; exact nn h1
      · cases q : B.h₀.get? genv.locals with
        | none => rfl
        | some o => have := S.keep _ o q; rw [hL0] at this; cases this
    have C : GCo B A genv gb h'.objs.size s.gens.size s := ⟨eN, by rw [← hge]; exact hco, sh, by rw [eL, sz]; exact Nat.succ_ne_self _, ha0, hL0, by simp, ft.mono hn, S.keep⟩
    have aliveW : ∀ b, (b = h'.objs.size ∨ b = genv.locals) → s.heap.get? b = none := fun b hb => by
      rcases hb with q | q
      · rw [q]; exact ha0
      · rw [q]; exact hL0
    refine ⟨ρ, x1, F.move x1, S.keeps kp, fun b => b = h'.objs.size ∨ b = genv.locals, fun b o ho hb => (by rw [aliveW b hb] at ho; exact nn ho), fun b hb => ?_, fun b hb q => ?_, fun env' off => ⟨_, gen_ix G C ht, ?_⟩⟩
    · rcases hb with q | q
      · rw [q]; exact ⟨_, ga⟩
      · rw [q]; exact ⟨_, Heap.get?_push_of_some _ hoL⟩
    · obtain ⟨o, ho⟩ := S.aliveAt hb
      rw [aliveW b q] at ho; exact nn ho
    · exact ⟨⟨go, nm, qn, ga, gis⟩, fun b o e => ⟨o, kp b o e⟩, .fresh rfl (by simp) off _ Fg put_get⟩
theorem sound {B : Bs} (G : Gd B) : ∀ n, Good B n (ev true B.ns n) := ev_good G (gi_ok G)
end Mine
end
section
open PySem PySem.W PyProof.Rows
set_option maxRecDepth 100000
set_option maxHeartbeats 0
namespace Mine
noncomputable section
noncomputable abbrev pw : Program := Challenge.pw_rl0083_01
noncomputable def vw : Program := view pw [0, 2, 4, 6, 7, 8, 10, 11, 12, 13, 14, 15, 16, 17, 18, 19]
noncomputable abbrev lo : List Str := [Str.ofString "Whitespace"]
noncomputable def Xt (s : Shared) : Bool := xlAt vw [] s && recOk (RowW.records Challenge.rw_rl0083_01.row.toRowW) s
noncomputable def S0 (w : World) (os : OsState) : Shared := ⟨boot_heap w.params, #[], boot_drawn, boot_toks, os⟩
noncomputable def look {α : Type} (Yf : Shared → α) (w : World) (s : Shared) :=
  ((staticsOk (importedModules pw.main.body) (boot_heap w.params) s.heap && namesBound pw s.heap && gensDone s && laidKept (boot_heap w.params) s.heap), openSeen vw lo (importedModules pw.main.body) Xt true s, Yf s)
theorem open0 : ∀ w : World, (fencedOpening treeTable pw w 2106).map (fun s => (s.heap, s.gens, s.drawn, s.toks)) = some (boot_heap w.params, #[], boot_drawn, boot_toks) :=
  boot_open (by rfl) (by decide +kernel) (fun _ => by rfl)
theorem size0 : ∀ w : World, ((boot_heap w.params).isNs mainGlobals && (#[] : Array GenState).size == 0, (boot_heap w.params).objs.size, (boot_heap w.params).nsMap mainGlobals "__annotations__") = (true, 11, some (.ref 6)) := fun w => by kernel_rfl
theorem left_of {α : Type} {Yf : Shared → α} {Ya : World → α}
    (h : ∀ w os, (topRun treeTable pw w 11 (some (.ref 6)) 1009 (S0 w os) (topStub pw)).map (look Yf w) = some (true, openGood vw lo, Ya w)) : LeftO pw vw lo Xt Yf Ya 2106 true := fun w => by
  obtain ⟨⟨hp, gs, d, k, os⟩, e, e'⟩ := Option.map_eq_some_iff.mp (open0 w)
  obtain ⟨rfl, rfl, rfl, rfl⟩ : hp = boot_heap w.params ∧ gs = #[] ∧ d = boot_drawn ∧ k = boot_toks := by simpa using e'
  obtain ⟨z1, z2, z3⟩ : _ ∧ _ ∧ _ := by simpa only [Prod.mk.injEq] using size0 w
  obtain ⟨s, hs, q⟩ := Option.map_eq_some_iff.mp (h w os)
  obtain ⟨l1, l2, l3⟩ : _ ∧ _ ∧ _ := by simpa only [look, Prod.mk.injEq] using q
  have r := topRun_mono (2106 - 1009) _ _ _ _ hs
  have t : topFrom treeTable pw w 2106 (S0 w os) = some s := by
    unfold topFrom
    unfold S0 at r ⊢
    dsimp only
    rw [z1, z2, z3, r]
    show (match staticsOk (importedModules pw.main.body) (boot_heap w.params) s.heap && namesBound pw s.heap && gensDone s && laidKept (boot_heap w.params) s.heap with | true => _ | false => _) = _
    rw [l1]
  unfold openEnds
  rw [e]
  show (topFrom treeTable pw w 2106 (S0 w os)).map _ = _
  rw [t]
  exact congrArg some (Prod.ext l2 l3)
noncomputable def twLook {α : Type} (Yf : Shared → α) (w : World) (s : Shared) :=
  ((staticsOk (PySem.W.Fast.tw5923862056798008813 pw.main.body) (boot_heap w.params) s.heap && namesBound pw s.heap && gensDone s && laidKept (boot_heap w.params) s.heap), PySem.W.Fast.tw4187177175401517315 vw lo (PySem.W.Fast.tw5923862056798008813 pw.main.body) Xt true s, Yf s)
theorem look_tw {α : Type} : @look α = @twLook α := by
  unfold look twLook
  rw [PySem.W.Fast.te5923862056798008813, PySem.W.Fast.te4187177175401517315]
theorem run_tw {α : Type} (Yf : Shared → α) (Ya : World → α) (h : ∀ w os, (PySem.W.Fast.tw14082659384304107361 PySem.W.Fast.tw14364793385576792824 pw w 11 (some (.ref 6)) 1009 (S0 w os) (topStub pw)).map (twLook Yf w) = some (true, openGood vw lo, Ya w)) :
  ∀ w os, (topRun treeTable pw w 11 (some (.ref 6)) 1009 (S0 w os) (topStub pw)).map (look Yf w) = some (true, openGood vw lo, Ya w) := by
  rw [look_tw, PySem.W.Fast.te14082659384304107361, PySem.W.Fast.te14364793385576792824]
  exact h
end
end Mine
end
section
/-! The head's ground facts, as one look at the heap behind the top. -/
namespace Mine
open PySem PySem.Spec PySem.Calls PyProof.Rows
set_option maxRecDepth 100000
set_option maxHeartbeats 0
noncomputable section
noncomputable def ats : List Addr := [2, 3, 15, 17, 18, 20, 21, 32, 34, 35, 37, 38, 39, 41, 42, 44, 45, 46, 48, 49, 51, 52, 53, 55, 56, 58, 59, 60, 62, 63, 65, 66, 67, 69, 70, 72, 73, 74, 76, 77, 79, 80, 81, 82, 83, 84, 85, 88, 90, 91, 93, 94, 95, 97, 98, 100, 101, 102, 104, 105, 107, 108, 109, 111, 112, 114, 115, 116, 119, 120, 121, 123, 124, 126, 127, 128, 130, 131, 133, 134, 135, 138, 139, 140, 142, 143, 145, 146, 147, 149, 150, 152, 153, 154, 157, 158, 159, 161, 162, 164, 165, 166, 169, 170, 171, 174, 175]
noncomputable def fr (h : Heap) : W.Frag := ats.filterMap fun a => (h.get? a).map fun o => (a, o)
theorem fr_in (h : Heap) : (fr h).In h := by
  intro a o e
  have : ∀ l : List Addr, (l.filterMap fun a => (h.get? a).map fun o => (a, o)).lookup a = some o → h.get? a = some o := by
    intro l
    induction l with
    | nil => intro e; cases e
    | cons b r ih =>
      intro e
      rw [List.filterMap_cons] at e
      cases hb : h.get? b with
      | none => rw [hb] at e; exact ih e
      | some x =>
        rw [hb] at e
        simp only [Option.map_some, List.lookup_cons] at e
        cases q : a == b with
        | true => rw [q] at e; obtain rfl := eq_of_beq q; cases e; exact hb
        | false => rw [q] at e; exact ih e
  exact this _ e
noncomputable def fnD (K : W.Frag) (a : Addr) : Option FuncData := match K.lookup a with
  | some ⟨_, _, .func fd, _⟩ => some fd
  | _ => none
theorem fnD_get {K : W.Frag} {h : Heap} (X : K.In h) {a : Addr} {fd : FuncData} (e : fnD K a = some fd) : ∃ o, h.get? a = some o ∧ o.data = .func fd := by
  unfold fnD at e
  split at e
  · rename_i ho
    cases e
    exact ⟨_, X _ _ ho, rfl⟩
  · cases e
theorem ns_val {K : W.Frag} {h : Heap} (X : K.In h) {a : Addr} {m : Str → Option Value} {f : Str} {r : Option Value} (hn : h.Ns a m) (e : W.nsIn K a f = some r) : m f = r := by
  obtain ⟨o, es, ep, ho, hd, hk, hm⟩ := hn
  rw [← hm f]
  unfold W.nsIn at e
  split at e
  · rename_i es' n' sl ho'
    have := X _ _ ho'
    rw [ho] at this
    cases this
    cases hd
    unfold nsFind findBy
    rw [← Array.find?_toList]
    split at e
    · rename_i en he; cases e; rw [he]; rfl
    · rename_i he
      split at e
      · cases e
      · cases e; rw [he]; rfl
  · cases e
noncomputable def dPs (f : Str) (b : List Stmt) : List Str := match defOf f b with | some (ps, _, _) => ps | none => []
noncomputable def dB (f : Str) (b : List Stmt) : List Stmt := match defOf f b with | some (_, b, _) => b | none => []
noncomputable def dN (f : Str) (b : List Stmt) : Names := match defOf f b with | some (_, _, N) => N | none => []
noncomputable def gB : List Stmt := match genOf topBody with
  | some (b, _) => b
  | none => []
/-- what is looked at of a def -/
structure FO where
  body : FuncBody
  names : Names
  closure : List (Str × Addr)
  globals : Addr
  builtins : Addr
  kind : ScopeKind
  co : Bool
  gen : Bool
  code : Bool
  bind : Value → Value → Value → Sem (List (Str × Value))
noncomputable def fo (K : W.Frag) (n : Nat) (a : Addr) : Option FO := (fnD K a).map fun fd => ⟨fd.body, fd.scope.names, fd.closure, fd.globals, fd.builtins, fd.scope.kind, fd.scope.isCoroutine, fd.scope.isGenerator, W.codeIn K fd.code fd.qualname, fun u v x => bindArgs fd ⟨[u, v, x].take n, []⟩⟩
noncomputable def fnObs (K : W.Frag) (bd : List Stmt) (p : Str × Addr) : Option FO × Bool := (fo K (dPs p.1 bd).length p.2, Nat.ble (dPs p.1 bd).length 3)
noncomputable def fnVal (bd : List Stmt) (p : Str × Addr) : Option FO × Bool := (some ⟨.stmts (dB p.1 bd), dN p.1 bd, [], mainGlobals, builtinsNs, .function, false, false, true, fun u v x => pure ((dPs p.1 bd).zip ([u, v, x].take (dPs p.1 bd).length))⟩, true)
theorem take3 {n : Nat} {vals : List Value} (h : n ≤ 3) (e : vals.length = n) : ∃ u v x, vals = [u, v, x].take n := by
  subst e
  cases vals with
  | nil => exact ⟨.none, .none, .none, rfl⟩
  | cons u r =>
    cases r with
    | nil => exact ⟨u, .none, .none, rfl⟩
    | cons v r =>
      cases r with
      | nil => exact ⟨u, v, .none, rfl⟩
      | cons x r =>
        cases r with
        | nil => exact ⟨u, v, x, rfl⟩
        | cons _ _ => exact absurd h (by simp only [List.length_cons]; omega)
theorem fo_at {K : W.Frag} {h : Heap} (X : K.In h) {n : Nat} {a : Addr} {f : FO} (e : fo K n a = some f) (hc : f.code = true) : ∃ o fd, h.get? a = some o ∧ o.data = .func fd ∧ h.CodeRec fd.code fd.qualname ∧ fd.body = f.body ∧ fd.scope.names = f.names ∧ fd.closure = f.closure ∧ fd.globals = f.globals ∧ fd.builtins = f.builtins ∧
    fd.scope.kind = f.kind ∧ fd.scope.isCoroutine = f.co ∧ fd.scope.isGenerator = f.gen ∧ ∀ u v x, bindArgs fd ⟨[u, v, x].take n, []⟩ = f.bind u v x := by
  obtain ⟨fd, h1, rfl⟩ := Option.map_eq_some_iff.mp e
  obtain ⟨o, h2, h3⟩ := fnD_get X h1
  exact ⟨o, fd, h2, h3, W.codeRec_of X hc, rfl, rfl, rfl, rfl, rfl, rfl, rfl, rfl, fun _ _ _ => rfl⟩
theorem fn_at {K : W.Frag} {h : Heap} (X : K.In h) {bd : List Stmt} {f : Str} {a : Addr} {ps : List Str} {b : List Stmt} {N : Names} (e : fnObs K bd (f, a) = fnVal bd (f, a)) (hd : defOf f bd = some (ps, b, N)) : FnAt h a ps b N := by
  have e1 : dPs f bd = ps := by unfold dPs; rw [hd]
  have e2 : dB f bd = b := by unfold dB; rw [hd]
  have e3 : dN f bd = N := by unfold dN; rw [hd]
  unfold fnObs fnVal at e
  dsimp only at e
  rw [e1, e2, e3] at e
  injection e with q1 q2
  obtain ⟨o, fd, h1, h2, h3, h4, h5, h6, h7, h8, h9, h10, h11, h12⟩ := fo_at X q1 rfl
  refine ⟨o, fd, h1, h2, h3, h4, h5, h6, h7, h8, h9, h10, h11, fun vals hl => ?_⟩
  obtain ⟨u, v, x, rfl⟩ := take3 (Nat.le_of_ble_eq_true q2) hl
  exact h12 u v x
noncomputable def kfObs (K : W.Frag) :=
  (W.makesIn K 83, W.findIn K (.ref 83) "__init__", [38, 45, 52, 66].all (fun a => W.typeIn K (.ref a) == some (.type "function")), W.plainGet K 83 "", W.findIn K (.ref 83) "__setattr__", W.plainOver K 83, W.hasDictIn K 83,
   ["raw", "n", "nt", "norm", "is_simple"].all (fun f => W.findIn K (.ref 83) (Str.ofString f) == some none), [("__init__", 38), ("longest_run_of_spaces", 45), ("indent_level", 52), ("not_equal_witness", 66)].all (fun p => W.findIn K (.ref 83) (Str.ofString p.1) == some (some (.ref p.2))),
   W.readsIn K 83 (.type "type"), (W.findCls K (.ref 83) (.type "type") "S").any (fun f => match f with | .val (.str x _) => x == " " | _ => false), (W.findCls K (.ref 83) (.type "type") "T").any (fun f => match f with | .val (.str x _) => x == "\t" | _ => false), W.keepIn K (.ref 83))
theorem kf_of {K : W.Frag} (e : kfObs K = (true, some (some (.ref 38)), true, true, some (some (.builtin "object.__setattr__")), true, true, true, true, true, true, true, true)) : KF K := by
  unfold kfObs at e
  injection e with a1 e
  injection e with a2 e
  injection e with a3 e
  injection e with a4 e
  injection e with a5 e
  injection e with a6 e
  injection e with a7 e
  injection e with a8 e
  injection e with a9 e
  injection e with a10 e
  injection e with a11 e
  injection e with a12 a13
  exact ⟨a1, a2, a3, a4, a5, a6, a7, a8, a9, a10, a11, a12, a13⟩
noncomputable def fList : List (Str × Addr) := fTab.filter fun p => (defOf p.1 topBody).isSome
noncomputable def obs (s : Shared) :=
  (kfObs (fr s.heap), fList.map (fnObs (fr s.heap) topBody), mTab.map (fnObs (fr s.heap) (classBody topBody)), fo (fr s.heap) 1 101, fTab.map (fun p => W.nsIn (fr s.heap) mainGlobals p.1), bTab.map (fun p => W.nsIn (fr s.heap) mainGlobals p.1))
noncomputable def obsV :=
  ((true, some (some (Value.ref 38)), true, true, some (some (Value.builtin "object.__setattr__")), true, true, true, true, true, true, true, true), fList.map (fnVal topBody), mTab.map (fnVal (classBody topBody)),
    some (FO.mk (.stmts gB) gN [] mainGlobals builtinsNs .function false true true fun u _ _ => pure [(Str.ofString "addr", u)]), fTab.map (fun p => some (some (Value.ref p.2))), bTab.map (fun _ => some (none : Option Value)))
/-- the same, said of a fragment of the heap -/
structure KG (K : W.Frag) : Prop where
  kf : KF K
  fn : ∀ p ∈ fList, fnObs K topBody p = fnVal topBody p
  mt : ∀ p ∈ mTab, fnObs K (classBody topBody) p = fnVal (classBody topBody) p
  gen : fo K 1 101 = some (FO.mk (.stmts gB) gN [] mainGlobals builtinsNs .function false true true fun u _ _ => pure [(Str.ofString "addr", u)])
  gf : ∀ p ∈ fTab, W.nsIn K mainGlobals p.1 = some (some (.ref p.2))
  gb : ∀ p ∈ bTab, W.nsIn K mainGlobals p.1 = some none
theorem kg_of {s : Shared} (e : obs s = obsV) : KG (fr s.heap) := by
  unfold obs obsV at e
  injection e with a1 e
  injection e with a2 e
  injection e with a3 e
  injection e with a4 e
  injection e with a5 a6
  exact ⟨kf_of a1, List.map_inj_left.mp a2, List.map_inj_left.mp a3, a4, List.map_inj_left.mp a5, List.map_inj_left.mp a6⟩
noncomputable def hk : W.Hook where
  α := _
  obs := obs
  val := fun _ => obsV
  says := fun _ h => ∃ K : W.Frag, K.In h ∧ KG K
  of := fun _ s e => ⟨fr s.heap, fr_in _, kg_of e⟩
  keeps := fun _ _ _ ⟨K, x, q⟩ k => ⟨K, x.keeps k, q⟩
theorem boot_b : bTab.map (fun p => bootBuiltins p.1) = bTab.map (fun p => some p.2) := by kernel_rfl
theorem b_name : ∀ p ∈ bTab, p.1 ≠ "__name__" := by decide +kernel
theorem gen_at {K : W.Frag} {h : Heap} (X : K.In h) (k : KG K) : ∃ o fd b N, genOf topBody = some (b, N) ∧ h.get? 101 = some o ∧ o.data = .func fd ∧ h.CodeRec fd.code fd.qualname ∧ fd.body = .stmts b ∧ fd.scope.names = N ∧ fd.closure = [] ∧ fd.globals = mainGlobals ∧ fd.builtins = builtinsNs ∧
    fd.scope.kind = .function ∧ fd.scope.isCoroutine = false ∧ fd.scope.isGenerator = true ∧ (∀ v : Value, bindArgs fd ⟨[v], []⟩ = pure [(Str.ofString "addr", v)]) := by
  obtain ⟨o, fd, h1, h2, h3, h4, h5, h6, h7, h8, h9, h10, h11, h12⟩ := fo_at X k.gen rfl
  exact ⟨o, fd, gB, gN, by rfl, h1, h2, h3, h4, h5, h6, h7, h8, h9, h10, h11, fun v => h12 v .none .none⟩
theorem gd_of {w : World} {h₀ : Heap} {scr : Addr} {ns : List Int} {vs : List Value} {mg mb : Str → Option Value} {K : W.Frag} (X : K.In h₀) (k : KG K) (g : h₀.Ns mainGlobals mg) (b : h₀.Ns builtinsNs mb) (nl : h₀.NoLimit) (hb : ∀ x : Str, x ≠ "__name__" → mb x = bootBuiltins x) (sr : h₀.NoSeer)
    (hL : h₀.IsList scr vs.toArray) (hI : IntsAre vs ns) (hlen : ns.length ≤ 63) : Gd ⟨w, h₀, scr, ns⟩ where
  kf := ⟨_, X, k.kf⟩
  sys := let ⟨_, ⟨o, _, _, ho, _⟩, _⟩ := sr.mods; ⟨o, ho⟩
  nolimit := nl
  scr := ⟨vs, hL, hI⟩
  few := hlen
  gns := ⟨mg, mb, g, b, fun f v e => ⟨ns_val X g (k.gb _ (tab_mem e)), (hb f (b_name _ (tab_mem e))).trans (List.map_inj_left.mp boot_b _ (tab_mem e))⟩, fun f a e => ns_val X g (k.gf _ (tab_mem e))⟩
  fn := fun f a ps b N e hd => fn_at X (k.fn _ (List.mem_filter.mpr ⟨tab_mem e, by rw [hd]; rfl⟩)) hd
  gen := gen_at X k
  mt := fun f a ps b N e hd => fn_at X (k.mt _ (tab_mem e)) hd
end
end Mine
end
section
/-! The head, and the end. -/
namespace Mine
open PySem PySem.W PySem.Spec PySem.Calls PyProof.Rows
set_option maxRecDepth 100000
set_option maxHeartbeats 0
theorem run_obs : ∀ w os, (PySem.W.Fast.tw14082659384304107361 PySem.W.Fast.tw14364793385576792824 pw w 11 (some (.ref 6)) 1009 (S0 w os) (topStub pw)).map (twLook obs w) = some (true, openGood vw lo, obsV) := by
  refine byRow2 "special-get-raises" ?_ ?_
  · intro w os; kernel_rfl
  · intro w os; kernel_rfl
theorem left_obs : LeftO pw vw lo Xt hk.obs hk.val 2106 true := left_of (Yf := obs) (Ya := fun _ => obsV) (run_tw obs (fun _ => obsV) run_obs)
end Mine
end
section
/-! The end. -/
namespace Mine
open PySem PySem.Spec PySem.Calls PyProof.Rows
set_option maxRecDepth 100000
set_option maxHeartbeats 0
noncomputable def LawOK : Prop := ∀ ns : List Int, ns.length ≤ 63 → ∃ H, callBy (ev true ns 50) topBody "law" [.scr] [] = some (.bool true, H)
theorem law_run {w : World} {s₁ : Shared} {scr fa : Addr} {ns : List Int} {vs : List Value} {mg mb : Str → Option Value} (law : LawOK) {K : W.Frag} (X : K.In s₁.heap) (kg : KG K) (g : s₁.heap.Ns mainGlobals mg) (b : s₁.heap.Ns builtinsNs mb) (nl : s₁.heap.NoLimit) (hb : ∀ x : Str, x ≠ "__name__" → mb x = bootBuiltins x) (sr : s₁.heap.NoSeer)
    (hL : s₁.heap.IsList scr vs.toArray) (hI : IntsAre vs ns) (hlen : ns.length ≤ 63) (hf : ∀ ps b N, defOf "law" topBody = some (ps, b, N) → FnAt s₁.heap fa ps b N) :
    wpAny (model Challenge.pw_rl0083_01 w) callerA (call (.ref fa) [.ref scr]) (fun v s' => v = .bool true ∧ (∀ b o, s₁.heap.get? b = some o → s'.heap.get? b = some o) ∧ s'.os = s₁.os ∧ (AllBare s₁.gens → AllBare s'.gens)) never s₁ := by
  have G : Gd ⟨w, s₁.heap, scr, ns⟩ := gd_of X kg g b nl hb sr hL hI hlen
  obtain ⟨H, h⟩ := law ns hlen
  have ft : Fit (50 + 1) callerA := ⟨rfl, by rw [depth_caller]; omega, by show 4 + _ ≤ _; omega⟩
  have S : St ⟨w, s₁.heap, scr, ns⟩ [] [] s₁.heap := st_nil fun _ _ e => e
  have r := def_call (B := ⟨w, s₁.heap, scr, ns⟩) (us := [.ref scr]) G (sound G 50).x ft hf h S (.cons .scr .nil)
  refine wpAny_mono (call_back r) (fun v s' q => ?_) fun _ _ z => z
  obtain ⟨ρ', x, _, rv⟩ := q
  exact ⟨rv.boolI, ext_mono x, x.os, x.bare⟩

theorem said : Challenge.rw_rl0083_01.wellSaid = true := by
  rw [W.Fast.te9446332074065402090]
  kernel_rfl
theorem dk_some : (W.defOf vw "law").isSome = true := by kernel_rfl
noncomputable def dk : DefRec × List (Str × Expr) := (W.defOf vw "law").get dk_some
theorem dk_none : dk.2 = [] ∧ dk.1.params.defaults = [] := ⟨by kernel_rfl, by kernel_rfl⟩
theorem dk_fd : ∀ pm cd doc dV kV : Value, (fun fd : FuncData => (fd.body, fd.scope.names, fd.closure, fd.globals, fd.builtins, fd.scope.kind, fd.scope.isCoroutine, fd.scope.isGenerator, fd.qualname)) { docDef dk.1.name dk.1.params dk.1.body dk.1.scope pm cd doc with defaults := dV, kwdefaults := kV } =
    (.stmts (dB "law" topBody), dN "law" topBody, [], mainGlobals, builtinsNs, .function, false, false, dk.1.name) := fun _ _ _ _ _ => by kernel_rfl
theorem dk_bind : ∀ pm cd doc u : Value, bindArgs { docDef dk.1.name dk.1.params dk.1.body dk.1.scope pm cd doc with defaults := .none, kwdefaults := .none } ⟨[u], []⟩ = pure ((dPs "law" topBody).zip [u]) := fun _ _ _ _ => by kernel_rfl
theorem dps_len : (dPs "law" topBody).length = 1 := by decide +kernel
end Mine
open PySem PySem.W PyProof.Rows
set_option maxRecDepth 100000
set_option maxHeartbeats 0
theorem fin_holds (law : Mine.LawOK) : PySem.Challenge.rw_rl0083_01.Holds := by
  refine holds_law Mine.said fun said => ?_
  refine holds_open (q := Mine.vw) (loose := Mine.lo) (Xt := Mine.Xt) (XP := XL Mine.vw []) (Yf := Mine.hk.obs) (Ya := Mine.hk.val) (YP := Mine.hk.says) (d := Mine.dk.1) (kwd := Mine.dk.2) (N := 2106) Mine.left_obs Mine.hk.of Mine.hk.keeps (fun s e => xl_of s (Bool.and_eq_true_iff.mp e).1) XL.keeps
    (by kernel_rfl) (by kernel_rfl) (by kernel_rfl) (fun s e => recFacts_of (Bool.and_eq_true_iff.mp e).2) (by rfl) said (by decide +kernel) ⟨rfl, rfl, rfl, rfl, rfl, by decide +kernel⟩ ?hw ?hc
  case hw => w_witness2
  case hc =>
  intro w s₀ s₁ mg mb G Y fa o pm cd doc dV kV ho hd hcd hD hmg hg args vals as hpre hlay hrd hwl hlo
  obtain ⟨K, KX, kg⟩ := Y
  refine Ground.open G ?_
  intro T B D TE TW
  wrow_args hpre hlay hrd hwl hlo
  rename_i ns _ _ _ _ _ _ _ scr vs _ hL _ _ _ hI _ hlen _
  have hlen' : ns.length ≤ 63 := by omega
  refine wpAny_mono (Mine.law_run law KX kg T.g T.b T.nolimit T.builtins (T.seer (by decide +kernel)) hL hI hlen' ?_) (fun v s' q => ?_) (fun _ _ z => z.elim)
  · intro ps b N hdef
    have e1 : Mine.dPs "law" Mine.topBody = ps := by unfold Mine.dPs; rw [hdef]
    have e2 : Mine.dB "law" Mine.topBody = b := by unfold Mine.dB; rw [hdef]
    have e3 : Mine.dN "law" Mine.topBody = N := by unfold Mine.dN; rw [hdef]
    rw [← e1, ← e2, ← e3]
    have d1 := hD.none Mine.dk_none.2
    rw [Mine.dk_none.1] at hD
    have d2 := hD.noKw
    subst d1 d2
    have q := Mine.dk_fd pm cd doc .none .none
    injection q with q1 q
    injection q with q2 q
    injection q with q3 q
    injection q with q4 q
    injection q with q5 q
    injection q with q6 q
    injection q with q7 q
    injection q with q8 q9
    refine ⟨o, _, ho, hd, q9 ▸ hcd, q1, q2, q3, q4, q5, q6, q7, q8, fun vals hl => ?_⟩
    obtain ⟨u, _, _, rfl⟩ := Mine.take3 (n := 1) (by decide) (hl.trans Mine.dps_len)
    exact Mine.dk_bind pm cd doc u
  · obtain ⟨rfl, hk, hos, hb⟩ := q
    refine ⟨.inl ⟨_, _, [], rfl, fun _ => rfl, ReadsW.bool true, ?_, fun _ => ⟨List.nodup_nil, fun _ hm => (nomatch hm)⟩⟩, .of_keep hk, hos, hb (.of_eq hg)⟩
    wrow_post
end
theorem PySem.Challenge.cw_rl0083_01_holds : PySem.Challenge.rw_rl0083_01.Holds := by
  exact fin_holds Mine.L.law_holds
