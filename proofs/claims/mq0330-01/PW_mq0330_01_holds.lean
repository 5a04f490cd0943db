import PyProof.Rows.All
import Wide.All
import OpenK.AllK
import Wide.FinOn
import Lean
import PySem.Challenge.RW_mq0330_01
set_option Elab.async false
set_option maxRecDepth 100000
section
open PySem
namespace Mine

/-- ints: written; an affine form in the script's letters; a letter floor-divided by a power of two -/
inductive Z where
  | k (c : Int)
  | l (c : Int) (cs : List Int)
  | d (j b : Nat)

inductive MV where
  | none
  | bool (b : Bool)
  | int (z : Z)
  | ref (i : Nat)
  | val (v : Value)

inductive MO where
  | list (xs : List MV)
  | tup (xs : List MV)
  | dict (es : List (Int × MV)) (v : Nat)
  | iset (xs : List Int)
  | inst (d : Nat)
  | idict (a b c e : Option MV)
  | node (d : Nat) (a b c : Option MV)
  | cell (v : Option MV)
  | range (a b c : Int)
  | vals (d : Nat)
  | liter (l k : Nat)
  | titer (l k : Nat)
  | riter (x left step : Int)
  | kiter (d k n v : Nat)
  | viter (d k n v : Nat)
  | next (it : Nat)
  | bound (f i : Nat)
  | fresh (l : Nat)

inductive PT (α : Type) where
  | nil
  | node (v : Option α) (l r : PT α)
namespace PT
variable {α : Type}
noncomputable def get (t : PT α) : Nat → Option α := @PT.rec α (fun _ => Nat → Option α) (fun _ => none) (fun v _ _ gl gr i =>
  @Bool.rec (fun _ => Option α) (@Bool.rec (fun _ => Option α) (gr (Nat.sub (Nat.div i 2) 1)) (gl (Nat.div i 2)) (Nat.beq (Nat.mod i 2) 1)) v (Nat.beq i 0)) t
noncomputable def set (f : Nat) : PT α → Nat → α → PT α := @Nat.rec (fun _ => PT α → Nat → α → PT α) (fun _ _ _ => .nil) (fun _ st t i x =>
  @PT.rec α (fun _ => PT α)
    (@Bool.rec (fun _ => PT α) (@Bool.rec (fun _ => PT α) (.node none .nil (st .nil (Nat.sub (Nat.div i 2) 1) x)) (.node none (st .nil (Nat.div i 2) x) .nil) (Nat.beq (Nat.mod i 2) 1)) (.node (some x) .nil .nil) (Nat.beq i 0))
    (fun v l r _ _ => @Bool.rec (fun _ => PT α) (@Bool.rec (fun _ => PT α) (.node v l (st r (Nat.sub (Nat.div i 2) 1) x)) (.node v (st l (Nat.div i 2) x) r) (Nat.beq (Nat.mod i 2) 1)) (.node (some x) l r) (Nat.beq i 0)) t) f
noncomputable def del (t : PT α) : Nat → PT α := @PT.rec α (fun _ => Nat → PT α) (fun _ => .nil) (fun v l r dl dr i =>
  @Bool.rec (fun _ => PT α) (@Bool.rec (fun _ => PT α) (.node v l (dr (Nat.sub (Nat.div i 2) 1))) (.node v (dl (Nat.div i 2)) r) (Nat.beq (Nat.mod i 2) 1)) (.node none l r) (Nat.beq i 0)) t
end PT

structure St where
  n : Nat
  H : PT MO
structure Frm where
  loc : List (Option MV)
  cel : List Nat
inductive Fl where
  | next | brk | cont
  | ret (v : MV)

/-- a number that is no object: a dict's epoch -/
noncomputable def St.ghost (s : St) : St := ⟨s.n + 1, s.H⟩
noncomputable def St.put (s : St) (i : Nat) (o : MO) : St := ⟨s.n, s.H.set 12 i o⟩
noncomputable def St.drop (s : St) (i : Nat) : St := ⟨s.n, s.H.del i⟩
noncomputable def St.add (s : St) (o : MO) : St := ⟨s.n + 1, s.H.set 12 s.n o⟩

abbrev ME := Frm → St → Option (MV × Frm × St)
abbrev MT := Frm → St → Option (Bool × Frm × St)
abbrev MS := Frm → St → Option (Fl × Frm × St)
abbrev MF := List MV → St → Option (MV × St)

noncomputable def short (xs : List MV) : Bool := Nat.ble xs.length 10000
-- ints
noncomputable def addC : List Int → List Int → List Int
  | a :: as, b :: bs => (a + b) :: addC as bs
  | [], bs => bs
  | as, [] => as
noncomputable def zeros : List Int → Bool
  | [] => true
  | c :: cs => match decide (c = 0) with
    | true => zeros cs
    | false => false
noncomputable def eqC : List Int → List Int → Bool
  | a :: as, b :: bs => match decide (a = b) with
    | true => eqC as bs
    | false => false
  | [], bs => zeros bs
  | as, [] => zeros as
noncomputable def unitAt : List Int → Option Nat
  | [] => none
  | c :: cs => match decide (c = 0) with
    | true => (match unitAt cs with | some j => some (j + 1) | none => none)
    | false => match decide (c = 1) with
      | true => (match zeros cs with | true => some 0 | false => none)
      | false => none
noncomputable def Z.add : Z → Z → Option Z
  | .k a, .k b => some (.k (a + b))
  | .k a, .l b cs => some (.l (a + b) cs)
  | .l a cs, .k b => some (.l (a + b) cs)
  | .l a cs, .l b ds => some (.l (a + b) (addC cs ds))
  | _, _ => none
noncomputable def tiny (a : Int) : Bool := decide (-1000000 < a ∧ a < 1000000)
noncomputable def scale (a : Int) : List Int → List Int
  | [] => []
  | c :: cs => (a * c) :: scale a cs
noncomputable def Z.mul : Z → Z → Option Z
  | .k a, .k b => (match tiny a with | true => some (.k (a * b)) | false => none)
  | .k a, .l b cs => (match tiny a with | true => some (.l (a * b) (scale a cs)) | false => none)
  | _, _ => none
noncomputable def Z.eqv : Z → Z → Option Bool
  | .k a, .k b => some (decide (a = b))
  | .l a cs, .l b ds => match decide (a = b) with
    | true => (match eqC cs ds with | true => some true | false => none)
    | false => none
  | .l a cs, .k b => match decide (a = b) with
    | true => (match zeros cs with | true => some true | false => none)
    | false => none
  | .k a, .l b cs => match decide (a = b) with
    | true => (match zeros cs with | true => some true | false => none)
    | false => none
  | _, _ => none

-- values
noncomputable def arith (ob : Nat → Nat → Option Bool) : Operator → Z → Z → Option Z
  | .Add, a, b => a.add b
  | .Mult, a, b => a.mul b
  | .Sub, .k a, .k b => some (.k (a - b))
  | .FloorDiv, .k a, .k b => match decide (b = 0), tiny b with
    | false, true => some (.k (Int.fdiv a b))
    | _, _ => none
  | .FloorDiv, .l c cs, .k b => match decide (c = 0), unitAt cs with
    | true, some j => (match decide (b = 1) with
      | true => some (.d j 0)
      | false => (match decide (b = 2) with
        | true => some (.d j 1)
        | false => none))
    | _, _ => none
  | .Mod, .k a, .k b => match decide (b = 0) with
    | true => none
    | false => some (.k (Int.fmod a b))
  | .Mod, .d j b, .k c => match decide (c = 2), ob j b with
    | true, some true => some (.k 1)
    | true, some false => some (.k 0)
    | _, _ => none
  | .Pow, .k a, .k b => match decide (0 ≤ b ∧ b < 16), tiny a with
    | true, true => some (.k (a ^ b.toNat))
    | _, _ => none
  | .LShift, .k a, .k b => match decide (0 ≤ b ∧ b < 16), tiny a with
    | true, true => some (.k (a * 2 ^ b.toNat))
    | _, _ => none
  | .BitAnd, .k a, .k b => match decide (0 ≤ a), decide (0 ≤ b) with
    | true, true => some (.k ((a.toNat &&& b.toNat : Nat) : Int))
    | _, _ => none
  | .BitOr, .k a, .k b => match decide (0 ≤ a), decide (0 ≤ b) with
    | true, true => some (.k ((a.toNat ||| b.toNat : Nat) : Int))
    | _, _ => none
  | _, _, _ => none

noncomputable def bin (ob : Nat → Nat → Option Bool) (op : Operator) (x y : MV) (s : St) : Option (MV × St) := match x, y with
  | .int a, .int b => (match arith ob op a b with | some z => some (.int z, s) | none => none)
  | .ref i, .ref j => match op, s.H.get i, s.H.get j with
    | .Add, some (.list xs), some (.list ys) => (match short xs, short ys with
      | true, true => some (.ref s.n, s.add (.list (xs ++ ys)))
      | _, _ => none)
    | _, _, _ => none
  | _, _ => none

noncomputable def negV : MV → Option MV
  | .int (.k a) => some (.int (.k (-a)))
  | _ => none

noncomputable def truth (x : MV) (s : St) : Option Bool := match x with
  | .none => some false
  | .bool b => some b
  | .int (.k a) => some (match decide (a = 0) with | true => false | false => true)
  | .ref i => (match s.H.get i with
    | some (.list xs) => (match short xs with
      | true => some (match xs with | [] => false | _ :: _ => true)
      | false => none)
    | _ => none)
  | _ => none

noncomputable def intsOf : List MV → Option (List Int)
  | [] => some []
  | .int (.k b) :: r => (match intsOf r with | some l => some (b :: l) | none => none)
  | _ :: _ => none
noncomputable def hasInt (a : Int) : List Int → Bool
  | [] => false
  | b :: r => match decide (b = a) with
    | true => true
    | false => hasInt a r
noncomputable def hasKey (a : Int) : List (Int × MV) → Bool
  | [] => false
  | (b, _) :: r => match decide (b = a) with
    | true => true
    | false => hasKey a r
noncomputable def findKey (a : Int) : List (Int × MV) → Option MV
  | [] => none
  | (b, v) :: r => match decide (b = a) with
    | true => some v
    | false => findKey a r
noncomputable def putKey (a : Int) (x : MV) : List (Int × MV) → List (Int × MV)
  | [] => [(a, x)]
  | (b, v) :: r => match decide (b = a) with
    | true => (b, x) :: r
    | false => (b, v) :: putKey a x r
noncomputable def delKey (a : Int) : List (Int × MV) → Option (List (Int × MV))
  | [] => none
  | (b, v) :: r => match decide (b = a) with
    | true => some r
    | false => (match delKey a r with | some r' => some ((b, v) :: r') | none => none)

/-- what a comparison of lists reads -/
inductive ZD where
  | int (z : Z)
  | list (xs : List ZD)
mutual
noncomputable def datV (H : PT MO) : Nat → MV → Option ZD
  | _, .int z => some (.int z)
  | f + 1, .ref i => (match H.get i with
    | some (.list xs) => (match datL H f xs with | some ds => some (.list ds) | none => none)
    | _ => none)
  | _, _ => none
noncomputable def datL (H : PT MO) : Nat → List MV → Option (List ZD)
  | _, [] => some []
  | 0, _ :: _ => none
  | f + 1, x :: xs => (match datV H f x with
    | none => none
    | some d => match datL H f xs with
      | none => none
      | some ds => some (d :: ds))
end
mutual
noncomputable def eqZD : ZD → ZD → Option Bool
  | .int a, .int b => a.eqv b
  | .list xs, .list ys => eqZDs xs ys
  | .int _, .list _ => none
  | .list _, .int _ => none
noncomputable def eqZDs : List ZD → List ZD → Option Bool
  | [], [] => some true
  | [], _ :: _ => some false
  | _ :: _, [] => some false
  | x :: xs, y :: ys => (match eqZD x y with
    | some true => eqZDs xs ys
    | some false => some false
    | none => none)
end
noncomputable def eqLists (H : PT MO) (i j : Nat) : Option Bool := match datV H 20 (.ref i) with
  | none => none
  | some a => match datV H 20 (.ref j) with
    | none => none
    | some b => eqZD a b

noncomputable def cmp (op : CmpOp) (x y : MV) (s : St) : Option Bool := match op, x, y with
  | .Is, .none, .none => some true
  | .Is, .ref _, .none => some false
  | .IsNot, .none, .none => some false
  | .IsNot, .ref _, .none => some true
  | .Eq, .int a, .int b => a.eqv b
  | .NotEq, .int a, .int b => (match a.eqv b with | some c => some (!c) | none => none)
  | .Lt, .int (.k a), .int (.k b) => some (decide (a < b))
  | .GtE, .int (.k a), .int (.k b) => some (decide (b ≤ a))
  | .In, .int (.k a), .ref i => (match s.H.get i with
    | some (.list xs) => (match intsOf xs with | some l => some (hasInt a l) | none => none)
    | some (.dict es _) => some (hasKey a es)
    | some (.iset xs) => (match Nat.ble xs.length 1000 with | true => some (hasInt a xs) | false => none)
    | _ => none)
  | .Eq, .ref i, .ref j => eqLists s.H i j
  | .NotEq, .ref i, .ref j => (match eqLists s.H i j with | some c => some (!c) | none => none)
  | _, _, _ => none

-- lists
noncomputable def sumV : Z → List MV → Option Z
  | a, [] => some a
  | a, .int b :: r => (match a.add b with | some c => sumV c r | none => none)
  | _, _ :: _ => none
noncomputable def setAt : List MV → Nat → MV → List MV
  | [], _, _ => []
  | _ :: r, 0, v => v :: r
  | x :: r, i + 1, v => x :: setAt r i v
noncomputable def getIdx (xs : List MV) (a : Int) : Option MV := match decide (0 ≤ a ∧ a < 1000000), decide (a = -1) with
  | true, _ => xs[a.toNat]?
  | _, true => xs.getLast?
  | _, _ => none
noncomputable def item (x y : MV) (s : St) : Option MV := match x, y with
  | .ref i, .int (.k a) => (match s.H.get i with
    | some (.list xs) => getIdx xs a
    | some (.dict es _) => findKey a es
    | _ => none)
  | _, _ => none
noncomputable def setItemM (x y v : MV) (s : St) : Option St := match x, y with
  | .ref i, .int (.k a) => (match s.H.get i with
    | some (.list xs) => (match decide (0 ≤ a ∧ a < 1000000 ∧ a < (xs.length : Int)) with
      | true => some (s.put i (.list (setAt xs a.toNat v)))
      | false => none)
    | some (.dict es _) => (match Nat.ble es.length 10000 with
      | true => some (s.ghost.put i (.dict (putKey a v es) s.n))
      | false => none)
    | _ => none)
  | _, _ => none
noncomputable def delItemM (x y : MV) (s : St) : Option St := match x, y with
  | .ref i, .int (.k a) => (match s.H.get i with
    | some (.dict es _) => (match Nat.ble es.length 10000, delKey a es with | true, some es' => some (s.ghost.put i (.dict es' s.n)) | _, _ => none)
    | _ => none)
  | _, _ => none

-- iteration
noncomputable def iterM (x : MV) (s : St) : Option (Nat × St) := match x with
  | .ref i => (match s.H.get i with
    | some (.list _) => some (s.n, s.add (.liter i 0))
    | some (.tup _) => some (s.n, s.add (.titer i 0))
    | some (.dict es v) => some (s.n, s.add (.kiter i 0 es.length v))
    | some (.vals d) => (match s.H.get d with
      | some (.dict es v) => some (s.n, s.add (.viter d 0 es.length v))
      | _ => none)
    | some (.range a b c) => (match Builtin.Range.small a b c with
      | true => some (s.n, s.add (.riter a (Builtin.Range.rangeSize a b c) c))
      | false => none)
    | _ => none)
  | _ => none
/-- none: stuck; some (none, _): through -/
noncomputable def nextM (j : Nat) (s : St) : Option (Option MV × St) := match s.H.get j with
  | some (.liter i k) => (match s.H.get i with
    | some (.list xs) => (match xs[k]? with
      | some v => some (some v, s.put j (.liter i (k + 1)))
      | none => some (none, s.drop j))
    | _ => none)
  | some (.titer i k) => (match s.H.get i with
    | some (.tup xs) => (match xs[k]? with
      | some v => some (some v, s.put j (.titer i (k + 1)))
      | none => some (none, s.drop j))
    | _ => none)
  | some (.riter x left step) => (match decide (0 < left) with
    | true => some (some (.int (.k x)), s.put j (.riter (x + step) (left - 1) step))
    | false => some (none, s.drop j))
  | some (.kiter d k n g) => (match s.H.get d with
    | some (.dict es g') => (match Nat.beq es.length n with
      | false => none
      | true => (match Nat.beq g g' with
        | false => none
        | true => (match es[k]? with
          | some p => some (some (.int (.k p.1)), s.put j (.kiter d (k + 1) n g))
          | none => some (none, s.drop j))))
    | _ => none)
  | some (.viter d k n g) => (match s.H.get d with
    | some (.dict es g') => (match Nat.beq es.length n with
      | false => none
      | true => (match Nat.beq g g' with
        | false => none
        | true => (match es[k]? with
          | some p => some (some p.2, s.put j (.viter d (k + 1) n g))
          | none => some (none, s.drop j))))
    | _ => none)
  | _ => none

/-- the same, of a list's iterator alone -/
noncomputable def nextL (j : Nat) (s : St) : Option (Option MV × St) := match s.H.get j with
  | some (.liter i k) => (match s.H.get i with
    | some (.list xs) => (match xs[k]? with
      | some v => some (some v, s.put j (.liter i (k + 1)))
      | none => some (none, s.drop j))
    | _ => none)
  | _ => none
-- expressions
noncomputable def eK (v : MV) : ME := fun f s => some (v, f, s)
noncomputable def eLoc (i : Nat) : ME := fun f s => match f.loc[i]? with
  | some (some v) => some (v, f, s)
  | _ => none
noncomputable def eCel (j : Nat) : ME := fun f s => match f.cel[j]? with
  | some i => (match s.H.get i with
    | some (.cell (some v)) => some (v, f, s)
    | _ => none)
  | none => none
noncomputable def eBin (ob : Nat → Nat → Option Bool) (op : Operator) (a b : ME) : ME := fun f s => match a f s with
  | none => none
  | some (x, f, s) => match b f s with
    | none => none
    | some (y, f, s) => match bin ob op x y s with
      | none => none
      | some (v, s) => some (v, f, s)
noncomputable def eNeg (a : ME) : ME := fun f s => match a f s with
  | none => none
  | some (x, f, s) => match negV x with
    | none => none
    | some v => some (v, f, s)
noncomputable def eIf (t : MT) (a b : ME) : ME := fun f s => match t f s with
  | none => none
  | some (true, f, s) => a f s
  | some (false, f, s) => b f s
noncomputable def eAll : List ME → Frm → St → Option (List MV × Frm × St)
  | [], f, s => some ([], f, s)
  | a :: as, f, s => match a f s with
    | none => none
    | some (x, f, s) => match eAll as f s with
      | none => none
      | some (xs, f, s) => some (x :: xs, f, s)
noncomputable def eList (as : List ME) : ME := fun f s => match eAll as f s with
  | none => none
  | some (xs, f, s) => some (.ref s.n, f, s.add (.list xs))
noncomputable def eTup (as : List ME) : ME := fun f s => match eAll as f s with
  | none => none
  | some (xs, f, s) => some (.ref s.n, f, s.add (.tup xs))
noncomputable def eDict0 : ME := fun f s => some (.ref (s.n + 1), f, s.ghost.add (.dict [] s.n))
noncomputable def eItem (a b : ME) : ME := fun f s => match a f s with
  | none => none
  | some (x, f, s) => match b f s with
    | none => none
    | some (y, f, s) => match item x y s with
      | none => none
      | some v => some (v, f, s)
/-- xs[:n] -/
noncomputable def eTake (a : ME) (n : ME) : ME := fun f s => match a f s with
  | none => none
  | some (x, f, s) => match n f s with
    | none => none
    | some (y, f, s) => match x, y with
      | .ref i, .int (.k c) => (match s.H.get i, decide (0 ≤ c ∧ c < 1000) with
        | some (.list xs), true => (match short xs with
          | true => some (.ref s.n, f, s.add (.list (xs.take c.toNat)))
          | false => none)
        | _, _ => none)
      | _, _ => none
/-- what a run is told: the bits of the letters; the letters that script[:2] holds; all of them -/
structure Or where
  bit : Nat → Nat → Option Bool
  z2 : List MV
  zs : List MV
/-- a slice of the script: object 0 -/
noncomputable def eTop (zs : List MV) (a : ME) : ME := fun f s => match a f s with
  | some (.ref i, f, s) => (match Nat.beq i 0 with
    | true => some (.ref s.n, f, s.add (.list zs))
    | false => none)
  | _ => none
/-- (script[:6] + [..])[:n] -/
noncomputable def eVals (zs : List MV) (a n : ME) : ME := fun f s => match a f s with
  | some (.ref i, f, s) => (match Nat.beq i 0 with
    | true => (match n f s with
      | some (.int (.k c), f, s) => (match decide (c = (zs.length : Int)) with
        | true => some (.ref s.n, f, s.add (.list zs))
        | false => none)
      | _ => none)
    | false => none)
  | _ => none
noncomputable def eCmp (op : CmpOp) (a b : ME) : ME := fun f s => match a f s with
  | none => none
  | some (x, f, s) => match b f s with
    | none => none
    | some (y, f, s) => match cmp op x y s with
      | none => none
      | some c => some (.bool c, f, s)
noncomputable def fLen : MF := fun xs s => match xs with
  | [.ref i] => (match s.H.get i with
    | some (.list xs) => (match short xs with | true => some (.int (.k xs.length), s) | false => none)
    | some (.tup xs) => (match short xs with | true => some (.int (.k xs.length), s) | false => none)
    | _ => none)
  | _ => none
noncomputable def fRange : MF := fun xs s => match xs with
  | [.int (.k b)] => some (.ref s.n, s.add (.range 0 b 1))
  | [.int (.k x), .int (.k y), .int (.k z)] => (match decide (z = 0), tiny z with
    | false, true => some (.ref s.n, s.add (.range x y z))
    | _, _ => none)
  | _ => none
noncomputable def fSum : MF := fun xs s => match xs with
  | [.ref i] => (match s.H.get i with
    | some (.list xs) => (match sumV (.k 0) xs with
      | some z => some (.int z, s)
      | none => none)
    | _ => none)
  | _ => none
noncomputable def fTuple : MF := fun xs s => match xs with
  | [.ref i] => (match s.H.get i with
    | some (.list xs) => (match short xs with | true => some (.ref s.n, s.add (.tup xs)) | false => none)
    | _ => none)
  | _ => none
noncomputable def fSet : MF := fun xs s => match xs with
  | [] => some (.ref s.n, s.add (.iset []))
  | _ => none
/-- iter(xs), xs a list -/
noncomputable def fIter : MF := fun xs s => match xs with
  | [.ref i] => (match s.H.get i with
    | some (.list _) => some (.ref s.n, s.add (.fresh i))
    | _ => none)
  | _ => none
/-- it.__next__, it a list's iterator -/
noncomputable def eNextOf (a : ME) : ME := fun f s => match a f s with
  | some (.ref i, f, s) => (match s.H.get i with
    | some (.fresh l) => some (.ref s.n, f, (s.put i (.liter l 0)).add (.next i))
    | _ => none)
  | _ => none
noncomputable def eCall (F : MF) (as : List ME) : ME := fun f s => match eAll as f s with
  | none => none
  | some (xs, f, s) => match F xs s with
    | none => none
    | some (v, s) => some (v, f, s)
inductive Kd where
  | list | dict | set | inst
noncomputable def isKd (k : Kd) (H : PT MO) (i : Nat) : Bool := match k, H.get i with
  | .list, some (.list _) => true
  | .dict, some (.dict _ _) => true
  | .set, some (.iset xs) => Nat.ble xs.length 1000
  | .inst, some (.inst d) => (match H.get d with
    | some (.idict _ _ _ _) => true
    | _ => false)
  | _, _ => false
/-- o.method(args) -/
noncomputable def eMeth (k : Kd) (F : MF) (o : ME) (as : List ME) : ME := fun f s => match o f s with
  | some (.ref i, f, s) => (match isKd k s.H i with
    | true => (match eAll as f s with
      | none => none
      | some (xs, f, s) => match F (.ref i :: xs) s with
        | none => none
        | some (v, s) => some (v, f, s))
    | false => none)
  | _ => none
noncomputable def itemsOf (s : St) : MV → Option (List MV)
  | .ref i => (match s.H.get i with
    | some (.list xs) => some xs
    | some (.tup xs) => some xs
    | _ => none)
  | _ => none
/-- o.method(args, *rest): a bound method object, of the function at fa -/
noncomputable def eMethStar (fa : Nat) (F : MF) (o : ME) (as : List ME) (rest : ME) : ME := fun f s => match o f s with
  | some (.ref i, f, s) => (match isKd .inst s.H i with
    | true => (match eAll as f (s.add (.bound fa i)) with
      | none => none
      | some (xs, f, s2) => match rest f s2 with
        | none => none
        | some (y, f, s3) => match itemsOf s3 y with
          | none => none
          | some ys => match s3.H.get s.n with
            | some (.bound fb j) => (match Nat.beq fb fa && Nat.beq j i && short ys with
              | true => (match F (.ref i :: (xs ++ ys)) s3 with
                | none => none
                | some (v, s4) => some (v, f, s4))
              | false => none)
            | _ => none)
    | false => none)
  | _ => none
/-- TopologicalSorter() -/
noncomputable def fSorter (I : MF) : MF := fun xs s => match xs with
  | [] => (match I [.ref (s.n + 1), .none] ((s.add (.idict none none none none)).add (.inst s.n)) with
    | some (.none, s') => some (.ref (s.n + 1), s')
    | _ => none)
  | _ => none
/-- _NodeInfo(x) -/
noncomputable def fNode (I : MF) : MF := fun xs s => match xs with
  | [x] => (match I [.ref (s.n + 1), x] ((s.add (.idict none none none none)).add (.node s.n none none none)) with
    | some (.none, s') => some (.ref (s.n + 1), s')
    | _ => none)
  | _ => none

noncomputable def attrI : Nat → MO → Option MV
  | 0, .idict a _ _ _ => a
  | 1, .idict _ b _ _ => b
  | 2, .idict _ _ c _ => c
  | 3, .idict _ _ _ e => e
  | _, _ => none
noncomputable def putI : Nat → MV → MO → Option MO
  | 0, v, .idict _ b c e => some (.idict (some v) b c e)
  | 1, v, .idict a _ c e => some (.idict a (some v) c e)
  | 2, v, .idict a b _ e => some (.idict a b (some v) e)
  | 3, v, .idict a b c _ => some (.idict a b c (some v))
  | _, _, _ => none
noncomputable def attrN : Nat → MO → Option MV
  | 0, .node _ a _ _ => a
  | 1, .node _ _ b _ => b
  | 2, .node _ _ _ c => c
  | _, _ => none
noncomputable def putN : Nat → MV → MO → Option MO
  | 0, v, .node d _ b c => some (.node d (some v) b c)
  | 1, v, .node d a _ c => some (.node d a (some v) c)
  | 2, v, .node d a b _ => some (.node d a b (some v))
  | _, _, _ => none
/-- no written value: those may be of a kind that is not handed out as it is -/
noncomputable def plainV : Option MV → Option MV
  | some (.val _) => none
  | r => r
noncomputable def getI (q : Nat) (x : MV) (s : St) : Option MV := match x with
  | .ref i => (match s.H.get i with
    | some (.inst d) => (match s.H.get d with
      | some o => plainV (attrI q o)
      | none => none)
    | _ => none)
  | _ => none
noncomputable def getN (q : Nat) (x : MV) (s : St) : Option MV := match x with
  | .ref i => (match s.H.get i with
    | some (.node d a b c) => (match s.H.get d with
      | some (.idict _ _ _ _) => plainV (attrN q (.node d a b c))
      | _ => none)
    | _ => none)
  | _ => none
noncomputable def setI (q : Nat) (x v : MV) (s : St) : Option St := match x with
  | .ref i => (match s.H.get i with
    | some (.inst d) => (match s.H.get d with
      | some o => (match putI q v o with
        | some o' => some (s.put d o')
        | none => none)
      | none => none)
    | _ => none)
  | _ => none
noncomputable def setN (q : Nat) (x v : MV) (s : St) : Option St := match x with
  | .ref i => (match s.H.get i with
    | some (.node d a b c) => (match s.H.get d with
      | some (.idict _ _ _ _) => (match putN q v (.node d a b c) with
        | some o' => some (s.put i o')
        | none => none)
      | _ => none)
    | _ => none)
  | _ => none
noncomputable def eAttrI (q : Nat) (a : ME) : ME := fun f s => match a f s with
  | none => none
  | some (x, f, s) => match getI q x s with
    | none => none
    | some v => some (v, f, s)
noncomputable def eAttrN (q : Nat) (a : ME) : ME := fun f s => match a f s with
  | none => none
  | some (x, f, s) => match getN q x s with
    | none => none
    | some v => some (v, f, s)
/-- (x := e) -/
noncomputable def eWalrus (i : Nat) (a : ME) : ME := fun f s => match a f s with
  | none => none
  | some (v, f, s) => some (v, ⟨f.loc.set i (some v), f.cel⟩, s)
-- methods of built-in things
noncomputable def fAppend : MF := fun xs s => match xs with
  | [.ref i, v] => (match s.H.get i with
    | some (.list xs) => (match short xs with | true => some (.none, s.put i (.list (xs ++ [v]))) | false => none)
    | _ => none)
  | _ => none
noncomputable def fExtend : MF := fun xs s => match xs with
  | [.ref i, .ref j] => (match s.H.get i with
    | some (.list xs) => (match s.H.get j with
      | some (.tup ys) => (match short xs, short ys with | true, true => some (.none, s.put i (.list (xs ++ ys))) | _, _ => none)
      | _ => none)
    | _ => none)
  | _ => none
noncomputable def fClear : MF := fun xs s => match xs with
  | [.ref i] => (match s.H.get i with
    | some (.list xs) => (match short xs with | true => some (.none, s.put i (.list [])) | false => none)
    | _ => none)
  | _ => none
noncomputable def fPop : MF := fun xs s => match xs with
  | [.ref i] => (match s.H.get i with
    | some (.list xs) => (match short xs, xs.getLast? with
      | true, some v => some (v, s.put i (.list xs.dropLast))
      | _, _ => none)
    | _ => none)
  | _ => none
noncomputable def fGet : MF := fun xs s => match xs with
  | [.ref i, .int (.k c)] => (match s.H.get i with
    | some (.dict es _) => (match findKey c es with
      | some v => some (v, s)
      | none => some (.none, s))
    | _ => none)
  | _ => none
noncomputable def fValues : MF := fun xs s => match xs with
  | [.ref i] => (match s.H.get i with
    | some (.dict _ _) => some (.ref s.n, s.add (.vals i))
    | _ => none)
  | _ => none
noncomputable def fAdd : MF := fun xs s => match xs with
  | [.ref i, .int (.k c)] => (match s.H.get i with
    | some (.iset xs) => (match Nat.ble xs.length 1000, hasInt c xs with
      | true, false => some (.none, s.put i (.iset (xs ++ [c])))
      | _, _ => none)
    | _ => none)
  | _ => none

-- tests
noncomputable def tVal (a : ME) : MT := fun f s => match a f s with
  | none => none
  | some (v, f, s) => match truth v s with
    | none => none
    | some b => some (b, f, s)
noncomputable def tCmp (op : CmpOp) (a b : ME) : MT := fun f s => match a f s with
  | none => none
  | some (x, f, s) => match b f s with
    | none => none
    | some (y, f, s) => match cmp op x y s with
      | none => none
      | some c => some (c, f, s)
noncomputable def tAnd (a b : MT) : MT := fun f s => match a f s with
  | none => none
  | some (false, f, s) => some (false, f, s)
  | some (true, f, s) => b f s

-- stores
inductive Tgt where
  | loc (i : Nat)
  | cel (j : Nat)
  | item (o i : ME)
  | attrI (q : Nat) (o : ME)
  | attrN (q : Nat) (o : ME)
noncomputable def store (t : Tgt) (v : MV) (f : Frm) (s : St) : Option (Frm × St) := match t with
  | .loc i => some (⟨f.loc.set i (some v), f.cel⟩, s)
  | .cel j => (match f.cel[j]? with
    | some i => (match s.H.get i with
      | some (.cell _) => some (f, s.put i (.cell (some v)))
      | _ => none)
    | none => none)
  | .item o i => (match o f s with
    | none => none
    | some (x, f, s) => match i f s with
      | none => none
      | some (y, f, s) => match setItemM x y v s with
        | none => none
        | some s => some (f, s))
  | .attrI q o => (match o f s with
    | none => none
    | some (x, f, s) => match setI q x v s with
      | none => none
      | some s => some (f, s))
  | .attrN q o => (match o f s with
    | none => none
    | some (x, f, s) => match setN q x v s with
      | none => none
      | some s => some (f, s))

-- comprehensions: [elt for t in src if tests], a frame of its own
/-- the turns: it, the iterator's number; acc, the list's -/
noncomputable def compGo (elt : ME) (t : Tgt) (test : MT) : Nat → Nat → Nat → Frm → St → Option (Frm × St)
  | 0, _, _, _, _ => none
  | n + 1, it, acc, f, s => match nextM it s with
    | none => none
    | some (none, s) => some (f, s)
    | some (some v, s) => match store t v f s with
      | none => none
      | some (f, s) => match test f s with
        | none => none
        | some (false, f, s) => compGo elt t test n it acc f s
        | some (true, f, s) => match elt f s with
          | none => none
          | some (y, f, s) => match s.H.get acc with
            | some (.list ys) => (match short ys with | true => compGo elt t test n it acc f (s.put acc (.list (ys ++ [y]))) | false => none)
            | _ => none
/-- own: how many locals; ncel: own cells (0 or 1); free: which cells of the outer frame it sees -/
noncomputable def frees (free : List Nat) (cel : List Nat) : Option (List Nat) := match free with
  | [] => some []
  | j :: r => match cel[j]?, frees r cel with
    | some i, some l => some (i :: l)
    | _, _ => none
noncomputable def eComp (src elt : ME) (t : Tgt) (test : MT) (nloc : Nat) (own : Bool) (free : List Nat) : ME := fun f s => match frees free f.cel with
  | none => none
  | some cl => match src f s with
    | none => none
    | some (x, f, s) => match iterM x s with
      | none => none
      | some (it, s) => match own with
        | true => (match compGo elt t test 40 it s.n ⟨List.replicate nloc none, (s.n + 1) :: cl⟩ ((s.add (.list [])).add (.cell none)) with
          | none => none
          | some (_, s') => some (.ref s.n, f, s'))
        | false => (match compGo elt t test 40 it s.n ⟨List.replicate nloc none, cl⟩ (s.add (.list [])) with
          | none => none
          | some (_, s') => some (.ref s.n, f, s'))

-- statements
noncomputable def sExpr (a : ME) : MS := fun f s => match a f s with
  | none => none
  | some (_, f, s) => some (.next, f, s)
noncomputable def sAssign (t : Tgt) (a : ME) : MS := fun f s => match a f s with
  | none => none
  | some (v, f, s) => match store t v f s with
    | none => none
    | some (f, s) => some (.next, f, s)
noncomputable def sAssign2 (t u : Tgt) (a : ME) : MS := fun f s => match a f s with
  | none => none
  | some (v, f, s) => match store t v f s with
    | none => none
    | some (f, s) => match store u v f s with
      | none => none
      | some (f, s) => some (.next, f, s)
/-- a, b = e -/
noncomputable def sUnpack (t u : Tgt) (a : ME) : MS := fun f s => match a f s with
  | some (.ref i, f, s) => (match s.H.get i with
    | some (.tup [x, y]) => (match store t x f s with
      | none => none
      | some (f, s) => match store u y f s with
        | none => none
        | some (f, s) => some (.next, f, s))
    | _ => none)
  | _ => none
noncomputable def augZ : Operator → Z → Z → Option Z
  | .Add, .k a, .k b => some (.k (a + b))
  | .Sub, .k a, .k b => some (.k (a - b))
  | _, _, _ => none
noncomputable def sAugI (q : Nat) (op : Operator) (o a : ME) : MS := fun f s => match o f s with
  | none => none
  | some (x, f, s) => match getI q x s with
    | some (.int z) => (match a f s with
      | some (.int y, f, s) => (match augZ op z y with
        | some r => (match setI q x (.int r) s with
          | some s => some (.next, f, s)
          | none => none)
        | none => none)
      | _ => none)
    | _ => none
noncomputable def sAugN (q : Nat) (op : Operator) (o a : ME) : MS := fun f s => match o f s with
  | none => none
  | some (x, f, s) => match getN q x s with
    | some (.int z) => (match a f s with
      | some (.int y, f, s) => (match augZ op z y with
        | some r => (match setN q x (.int r) s with
          | some s => some (.next, f, s)
          | none => none)
        | none => none)
      | _ => none)
    | _ => none
noncomputable def sDel (o i : ME) : MS := fun f s => match o f s with
  | none => none
  | some (x, f, s) => match i f s with
    | none => none
    | some (y, f, s) => match delItemM x y s with
      | none => none
      | some s => some (.next, f, s)
noncomputable def sIf (t : MT) (a b : MS) : MS := fun f s => match t f s with
  | none => none
  | some (true, f, s) => a f s
  | some (false, f, s) => b f s
noncomputable def sRet (a : ME) : MS := fun f s => match a f s with
  | none => none
  | some (v, f, s) => some (.ret v, f, s)
noncomputable def sBrk : MS := fun f s => some (.brk, f, s)
noncomputable def sCont : MS := fun f s => some (.cont, f, s)
noncomputable def sNil : MS := fun f s => some (.next, f, s)
noncomputable def sSeq (a b : MS) : MS := fun f s => match a f s with
  | none => none
  | some (.next, f, s) => b f s
  | some (x, f, s) => some (x, f, s)
noncomputable def sStop : MS := fun _ _ => none
noncomputable def forGo (t : Tgt) (body : MS) : Nat → Nat → Frm → St → Option (Fl × Frm × St)
  | 0, _, _, _ => none
  | n + 1, it, f, s => match nextM it s with
    | none => none
    | some (none, s) => some (.next, f, s)
    | some (some v, s) => match store t v f s with
      | none => none
      | some (f, s) => match body f s with
        | none => none
        | some (.next, f, s) => forGo t body n it f s
        | some (.cont, f, s) => forGo t body n it f s
        | some (.brk, f, s) => some (.next, f, s)
        | some (.ret v, f, s) => some (.ret v, f, s)
noncomputable def sFor (t : Tgt) (src : ME) (body : MS) : MS := fun f s => match src f s with
  | none => none
  | some (x, f, s) => match iterM x s with
    | none => none
    | some (it, s) => forGo t body 40 it f s
noncomputable def whileGo (t : MT) (body els : MS) : Nat → Frm → St → Option (Fl × Frm × St)
  | 0, _, _ => none
  | n + 1, f, s => match t f s with
    | none => none
    | some (false, f, s) => els f s
    | some (true, f, s) => match body f s with
      | none => none
      | some (.next, f, s) => whileGo t body els n f s
      | some (.cont, f, s) => whileGo t body els n f s
      | some (.brk, f, s) => some (.next, f, s)
      | some (.ret v, f, s) => some (.ret v, f, s)
noncomputable def sWhile (t : MT) (body els : MS) : MS := fun f s => whileGo t body els 60 f s
/-- try: x = o() ; body / except StopIteration: handler;  o a bound __next__ -/
noncomputable def sTryNext (t : Tgt) (o : ME) (body handler : MS) : MS := fun f s => match o f s with
  | some (.ref i, f, s) => (match s.H.get i with
    | some (.next j) => (match nextL j s with
      | none => none
      | some (some v, s) => (match store t v f s with
        | none => none
        | some (f, s) => body f s)
      | some (none, s) => handler f s)
    | _ => none)
  | _ => none

-- functions
/-- how each cell variable starts: empty, or with the argument of that place -/
noncomputable def addCells (xs : List MV) : List (Option Nat) → St → List Nat → Option (List Nat × St)
  | [], s, acc => some (acc.reverse, s)
  | none :: r, s, acc => addCells xs r (s.add (.cell none)) (s.n :: acc)
  | some i :: r, s, acc => match xs[i]? with
    | some v => addCells xs r (s.add (.cell (some v))) (s.n :: acc)
    | none => none
/-- how each local starts -/
noncomputable def fillLoc (xs : List MV) : List (Option Nat) → Option (List (Option MV))
  | [] => some []
  | none :: r => (match fillLoc xs r with | some l => some (none :: l) | none => none)
  | some i :: r => match xs[i]?, fillLoc xs r with
    | some v, some l => some (some v :: l)
    | _, _ => none
noncomputable def fn (np : Nat) (locs cels : List (Option Nat)) (body : MS) : MF := fun xs s => match Nat.beq xs.length np with
  | false => none
  | true => match fillLoc xs locs, addCells xs cels s [] with
    | some loc, some (cel, s) => (match body ⟨loc, cel⟩ s with
      | none => none
      | some (.ret v, _, s) => some (v, s)
      | some (.next, _, s) => some (.none, s)
      | some (_, _, _) => none)
    | _, _ => none
/-- def f(a, .., *rest): np plain ones -/
noncomputable def fnStar (np : Nat) (locs cels : List (Option Nat)) (body : MS) : MF := fun xs s => match Nat.ble np xs.length && short xs with
  | false => none
  | true => match fillLoc (xs.take np ++ [.ref s.n]) locs, addCells (xs.take np ++ [.ref s.n]) cels (s.add (.tup (xs.drop np))) [] with
    | some loc, some (cel, s) => (match body ⟨loc, cel⟩ s with
      | none => none
      | some (.ret v, _, s) => some (v, s)
      | some (.next, _, s) => some (.none, s)
      | some (_, _, _) => none)
    | _, _ => none
end Mine

end
section
open PySem
namespace Mine
noncomputable def B_truth (ob : Or) : MS := (sSeq (sRet (eIf (tVal (eLoc 0)) (eK (.bool true)) (eK (.bool false)))) sNil)
noncomputable def F_truth (ob : Or) : MF := fn 1 [some 0] [] (B_truth ob)
noncomputable def B_add (ob : Or) : MS := (sSeq (sRet (eBin ob.bit .Add (eLoc 0) (eLoc 1))) sNil)
noncomputable def F_add (ob : Or) : MF := fn 2 [some 0, some 1] [] (B_add ob)
noncomputable def B_and_ (ob : Or) : MS := (sSeq (sRet (eBin ob.bit .BitAnd (eLoc 0) (eLoc 1))) sNil)
noncomputable def F_and_ (ob : Or) : MF := fn 2 [some 0, some 1] [] (B_and_ ob)
noncomputable def B_lshift (ob : Or) : MS := (sSeq (sRet (eBin ob.bit .LShift (eLoc 0) (eLoc 1))) sNil)
noncomputable def F_lshift (ob : Or) : MF := fn 2 [some 0, some 1] [] (B_lshift ob)
noncomputable def B_mul (ob : Or) : MS := (sSeq (sRet (eBin ob.bit .Mult (eLoc 0) (eLoc 1))) sNil)
noncomputable def F_mul (ob : Or) : MF := fn 2 [some 0, some 1] [] (B_mul ob)
noncomputable def B_neg (ob : Or) : MS := (sSeq (sRet (eNeg (eLoc 0))) sNil)
noncomputable def F_neg (ob : Or) : MF := fn 1 [some 0] [] (B_neg ob)
noncomputable def B_or_ (ob : Or) : MS := (sSeq (sRet (eBin ob.bit .BitOr (eLoc 0) (eLoc 1))) sNil)
noncomputable def F_or_ (ob : Or) : MF := fn 2 [some 0, some 1] [] (B_or_ ob)
noncomputable def B_getitem (ob : Or) : MS := (sSeq (sRet (eItem (eLoc 0) (eLoc 1))) sNil)
noncomputable def F_getitem (ob : Or) : MF := fn 2 [some 0, some 1] [] (B_getitem ob)
noncomputable def B_setitem (ob : Or) : MS := (sSeq (sAssign (.item (eLoc 0) (eLoc 1)) (eLoc 2)) sNil)
noncomputable def F_setitem (ob : Or) : MF := fn 3 [some 0, some 1, some 2] [] (B_setitem ob)
noncomputable def B_n_init (ob : Or) : MS := (sSeq (sAssign (.attrN 0 (eLoc 0)) (eLoc 1)) (sSeq (sAssign (.attrN 1 (eLoc 0)) (eK (.int (.k 0)))) (sSeq (sAssign (.attrN 2 (eLoc 0)) (eList [])) sNil)))
noncomputable def F_n_init (ob : Or) : MF := fn 2 [some 0, some 1] [] (B_n_init ob)
noncomputable def B_t_init (ob : Or) : MS := (sSeq (sAssign (.attrI 0 (eLoc 0)) eDict0) (sSeq (sAssign (.attrI 1 (eLoc 0)) (eK .none)) (sSeq (sAssign (.attrI 2 (eLoc 0)) (eK (.int (.k 0)))) (sSeq (sAssign (.attrI 3 (eLoc 0)) (eK (.int (.k 0)))) (sSeq (sIf (tCmp .IsNot (eLoc 1) (eK .none)) (sSeq sStop sNil) sNil) sNil)))))
noncomputable def F_t_init (ob : Or) : MF := fn 2 [some 0, some 1, none, none] [] (B_t_init ob)
noncomputable def B_tget_nodeinfo (ob : Or) : MS := (sSeq (sIf (tCmp .Is (eWalrus 2 (eMeth .dict fGet (eAttrI 0 (eLoc 0)) [(eLoc 1)])) (eK .none)) (sSeq (sAssign2 (.item (eAttrI 0 (eLoc 0)) (eLoc 1)) (.loc 2) (eCall (fNode (F_n_init ob)) [(eLoc 1)])) sNil) sNil) (sSeq (sRet (eLoc 2)) sNil))
noncomputable def F_tget_nodeinfo (ob : Or) : MF := fn 2 [some 0, some 1, none] [] (B_tget_nodeinfo ob)
noncomputable def B_t_add (ob : Or) : MS := (sSeq (sIf (tCmp .IsNot (eAttrI 1 (eLoc 0)) (eK .none)) (sSeq sStop sNil) sNil) (sSeq (sAssign (.loc 3) (eMeth .inst (F_tget_nodeinfo ob) (eLoc 0) [(eLoc 1)])) (sSeq (sAugN 1 .Add (eLoc 3) (eCall fLen [(eLoc 2)])) (sSeq (sFor (.loc 4) (eLoc 2) (sSeq (sAssign (.loc 5) (eMeth .inst (F_tget_nodeinfo ob) (eLoc 0) [(eLoc 4)])) (sSeq (sExpr (eMeth .list fAppend (eAttrN 2 (eLoc 5)) [(eLoc 1)])) sNil))) sNil))))
noncomputable def F_t_add (ob : Or) : MF := fnStar 2 [some 0, some 1, some 2, none, none, none] [] (B_t_add ob)
noncomputable def B_tfind_cycle (ob : Or) : MS := (sSeq (sAssign (.loc 1) (eAttrI 0 (eLoc 0))) (sSeq (sAssign (.loc 2) (eList [])) (sSeq (sAssign (.loc 3) (eList [])) (sSeq (sAssign (.loc 4) (eCall fSet [])) (sSeq (sAssign (.loc 5) eDict0) (sSeq (sFor (.loc 6) (eLoc 1) (sSeq (sIf (tCmp .In (eLoc 6) (eLoc 4)) (sSeq sCont sNil) sNil) (sSeq (sWhile (tVal (eK (.bool true))) (sSeq (sIf (tCmp .In (eLoc 6) (eLoc 4)) (sSeq (sIf (tCmp .In (eLoc 6) (eLoc 5)) (sSeq sStop sNil) sNil) sNil) (sSeq (sExpr (eMeth .set fAdd (eLoc 4) [(eLoc 6)])) (sSeq (sExpr (eMeth .list fAppend (eLoc 3) [(eNextOf (eCall fIter [(eAttrN 2 (eItem (eLoc 1) (eLoc 6)))]))])) (sSeq (sAssign (.item (eLoc 5) (eLoc 6)) (eCall fLen [(eLoc 2)])) (sSeq (sExpr (eMeth .list fAppend (eLoc 2) [(eLoc 6)])) sNil))))) (sSeq (sWhile (tVal (eLoc 2)) (sSeq (sTryNext (.loc 6) (eItem (eLoc 3) (eNeg (eK (.int (.k 1))))) (sSeq sBrk sNil) (sSeq (sDel (eLoc 5) (eMeth .list fPop (eLoc 2) [])) (sSeq (sExpr (eMeth .list fPop (eLoc 3) [])) sNil))) sNil) (sSeq sBrk sNil)) sNil)) sNil) sNil))) (sSeq (sRet (eK .none)) sNil)))))))
noncomputable def F_tfind_cycle (ob : Or) : MF := fn 1 [some 0, none, none, none, none, none, none] [] (B_tfind_cycle ob)
noncomputable def B_t_prepare (ob : Or) : MS := (sSeq (sIf (tCmp .IsNot (eAttrI 1 (eLoc 0)) (eK .none)) (sSeq sStop sNil) sNil) (sSeq (sAssign (.attrI 1 (eLoc 0)) (eComp (eMeth .dict fValues (eAttrI 0 (eLoc 0)) []) (eAttrN 0 (eLoc 0)) (.loc 0) (tCmp .Eq (eAttrN 1 (eLoc 0)) (eK (.int (.k 0)))) 1 false [])) (sSeq (sAssign (.loc 1) (eMeth .inst (F_tfind_cycle ob) (eLoc 0) [])) (sSeq (sIf (tVal (eLoc 1)) (sSeq sStop sNil) sNil) sNil))))
noncomputable def F_t_prepare (ob : Or) : MF := fn 1 [some 0, none] [] (B_t_prepare ob)
noncomputable def B_t_get_ready (ob : Or) : MS := (sSeq (sIf (tCmp .Is (eAttrI 1 (eLoc 0)) (eK .none)) (sSeq sStop sNil) sNil) (sSeq (sAssign (.loc 1) (eCall fTuple [(eAttrI 1 (eLoc 0))])) (sSeq (sAssign (.loc 2) (eAttrI 0 (eLoc 0))) (sSeq (sFor (.loc 3) (eLoc 1) (sSeq (sAssign (.attrN 1 (eItem (eLoc 2) (eLoc 3))) (eK (.int (.k (-1))))) sNil)) (sSeq (sExpr (eMeth .list fClear (eAttrI 1 (eLoc 0)) [])) (sSeq (sAugI 2 .Add (eLoc 0) (eCall fLen [(eLoc 1)])) (sSeq (sRet (eLoc 1)) sNil)))))))
noncomputable def F_t_get_ready (ob : Or) : MF := fn 1 [some 0, none, none, none] [] (B_t_get_ready ob)
noncomputable def B_t_done (ob : Or) : MS := (sSeq (sIf (tCmp .Is (eAttrI 1 (eLoc 0)) (eK .none)) (sSeq sStop sNil) sNil) (sSeq (sAssign (.loc 2) (eAttrI 0 (eLoc 0))) (sSeq (sFor (.loc 3) (eLoc 1) (sSeq (sIf (tCmp .Is (eWalrus 4 (eMeth .dict fGet (eLoc 2) [(eLoc 3)])) (eK .none)) (sSeq sStop sNil) sNil) (sSeq (sAssign (.loc 5) (eAttrN 1 (eLoc 4))) (sSeq (sIf (tCmp .NotEq (eLoc 5) (eK (.int (.k (-1))))) (sSeq (sIf (tCmp .GtE (eLoc 5) (eK (.int (.k 0)))) (sSeq sStop sNil) (sSeq (sIf (tCmp .Eq (eLoc 5) (eK (.int (.k (-2))))) (sSeq sStop sNil) (sSeq sStop sNil)) sNil)) sNil) sNil) (sSeq (sAssign (.attrN 1 (eLoc 4)) (eK (.int (.k (-2))))) (sSeq (sFor (.loc 6) (eAttrN 2 (eLoc 4)) (sSeq (sAssign (.loc 7) (eItem (eLoc 2) (eLoc 6))) (sSeq (sAugN 1 .Sub (eLoc 7) (eK (.int (.k 1)))) (sSeq (sIf (tCmp .Eq (eAttrN 1 (eLoc 7)) (eK (.int (.k 0)))) (sSeq (sExpr (eMeth .list fAppend (eAttrI 1 (eLoc 0)) [(eLoc 6)])) sNil) sNil) sNil)))) (sSeq (sAugI 3 .Add (eLoc 0) (eK (.int (.k 1)))) sNil))))))) sNil)))
noncomputable def F_t_done (ob : Or) : MF := fnStar 1 [some 0, some 1, none, none, none, none, none, none] [] (B_t_done ob)
noncomputable def B_law_needs (ob : Or) : MS := (sSeq (sAssign (.cel 0) (eBin ob.bit .Add (eBin ob.bit .Add (eList [(eK (.int (.k 0)))]) (eTop ob.z2 (eLoc 0))) (eList [(eK (.int (.k 1))), (eK (.int (.k 1))), (eK (.int (.k 6)))]))) (sSeq (sAssign (.loc 1) (eList [])) (sSeq (sFor (.cel 1) (eCall fRange [(eCall fLen [(eCel 0)])]) (sSeq (sExpr (eMeth .list fAppend (eLoc 1) [(eComp (eCall fRange [(eCel 1)]) (eLoc 0) (.loc 0) (tCmp .Eq (eBin ob.bit .Mod (eBin ob.bit .FloorDiv (eItem (eCel 0) (eCel 1)) (eBin ob.bit .Pow (eK (.int (.k 2))) (eLoc 0))) (eK (.int (.k 2)))) (eK (.int (.k 1)))) 1 false [0, 1])])) sNil)) (sSeq (sRet (eLoc 1)) sNil))))
noncomputable def F_law_needs (ob : Or) : MF := fn 1 [some 0, none] [none, none] (B_law_needs ob)
noncomputable def B_law_order (ob : Or) : MS := (sSeq (sAssign (.loc 1) (eCall (fSorter (F_t_init ob)) [])) (sSeq (sFor (.loc 2) (eCall fRange [(eBin ob.bit .Sub (eCall fLen [(eLoc 0)]) (eK (.int (.k 1)))), (eNeg (eK (.int (.k 1)))), (eNeg (eK (.int (.k 1))))]) (sSeq (sExpr (eMethStar 150 (F_t_add ob) (eLoc 1) [(eLoc 2)] (eItem (eLoc 0) (eLoc 2)))) sNil)) (sSeq (sExpr (eMeth .inst (F_t_prepare ob) (eLoc 1) [])) (sSeq (sAssign (.loc 3) (eList [])) (sSeq (sFor (.loc 4) (eCall fRange [(eCall fLen [(eLoc 0)])]) (sSeq (sAssign (.loc 5) (eMeth .inst (F_t_get_ready ob) (eLoc 1) [])) (sSeq (sExpr (eMeth .list fExtend (eLoc 3) [(eLoc 5)])) (sSeq (sExpr (eMethStar 183 (F_t_done ob) (eLoc 1) [] (eLoc 5))) sNil)))) (sSeq (sRet (eLoc 3)) sNil))))))
noncomputable def F_law_order (ob : Or) : MF := fn 1 [some 0, none, none, none, none, none] [] (B_law_order ob)
noncomputable def B_law_table (ob : Or) : MS := (sSeq (sAssign (.cel 1) (eComp (eCel 0) (eK (.int (.k 0))) (.loc 0) (fun f s => some (true, f, s)) 1 false [])) (sSeq (sAssign (.loc 0) (eComp (eCel 0) (eComp (eCel 0) (eK (.int (.k 0))) (.loc 0) (fun f s => some (true, f, s)) 1 false []) (.loc 0) (fun f s => some (true, f, s)) 1 false [0])) (sSeq (sFor (.cel 2) (eCall (F_law_order ob) [(eCel 0)]) (sSeq (sExpr (eCall (F_setitem ob) [(eCel 1), (eCel 2), (eCall (F_lshift ob) [(eK (.int (.k 1))), (eCel 2)])])) (sSeq (sFor (.loc 1) (eItem (eCel 0) (eCel 2)) (sSeq (sExpr (eCall (F_setitem ob) [(eCel 1), (eCel 2), (eCall (F_or_ ob) [(eCall (F_getitem ob) [(eCel 1), (eCel 2)]), (eCall (F_getitem ob) [(eCel 1), (eLoc 1)])])])) sNil)) (sSeq (sAssign (.loc 2) (eComp (eCall fRange [(eCall fLen [(eCel 0)])]) (eLoc 0) (.loc 0) (tVal (eCall (F_truth ob) [(eCall (F_and_ ob) [(eItem (eCel 0) (eCel 1)), (eCall (F_lshift ob) [(eK (.int (.k 1))), (eLoc 0)])])])) 1 false [1, 2])) (sSeq (sFor (.loc 3) (eLoc 2) (sSeq (sAssign (.loc 4) (eK (.int (.k 0)))) (sSeq (sFor (.loc 5) (eLoc 2) (sSeq (sAssign (.loc 4) (eCall (F_add ob) [(eLoc 4), (eCall (F_getitem ob) [(eItem (eLoc 0) (eLoc 3)), (eLoc 5)])])) sNil)) (sSeq (sExpr (eCall (F_setitem ob) [(eItem (eLoc 0) (eLoc 3)), (eCel 2), (eIf (tCmp .Eq (eLoc 3) (eCel 2)) (eK (.int (.k 1))) (eCall (F_neg ob) [(eLoc 4)]))])) sNil)))) sNil))))) (sSeq (sRet (eTup [(eCel 1), (eLoc 0)])) sNil))))
noncomputable def F_law_table (ob : Or) : MF := fn 1 [none, none, none, none, none, none] [some 0, none, none] (B_law_table ob)
noncomputable def B_law_under (ob : Or) : MS := (sSeq (sAssign (.cel 1) (eList [])) (sSeq (sFor (.cel 2) (eCall fRange [(eCall fLen [(eCel 0)])]) (sSeq (sExpr (eMeth .list fAppend (eCel 1) [(eBin ob.bit .Add (eComp (eCall fRange [(eCel 2)]) (eCel 0) (.cel 0) (tCmp .NotEq (eComp (eItem (eCel 1) (eCel 2)) (eLoc 0) (.loc 0) (tCmp .In (eCel 0) (eItem (eCel 1) (eLoc 0))) 1 false [0, 3]) (eList [])) 0 true [0, 2, 1]) (eList [(eCel 2)]))])) sNil)) (sSeq (sRet (eCel 1)) sNil)))
noncomputable def F_law_under (ob : Or) : MF := fn 1 [] [some 0, none, none] (B_law_under ob)
noncomputable def B_law_chains (ob : Or) (self : MF) : MS := (sSeq (sIf (tCmp .Eq (eCel 1) (eCel 2)) (sSeq (sRet (eK (.int (.k 1)))) sNil) sNil) (sSeq (sRet (eNeg (eCall fSum [(eComp (eItem (eCel 0) (eCel 2)) (eCall self [(eCel 0), (eLoc 0), (eCel 1)]) (.loc 0) (tAnd (tCmp .NotEq (eLoc 0) (eCel 2)) (tCmp .In (eCel 2) (eItem (eCel 0) (eLoc 0)))) 1 false [0, 2, 1])]))) sNil))
noncomputable def F_law_chains (ob : Or) : Nat → MF
  | 0 => fun _ _ => none
  | n + 1 => fn 3 [] [some 0, some 1, some 2] (B_law_chains ob (F_law_chains ob n))
noncomputable def B_law_back (ob : Or) : MS := (sSeq (sAssign (.loc 2) (eK (.int (.k 0)))) (sSeq (sFor (.loc 3) (eCall fRange [(eCall fLen [(eLoc 0)])]) (sSeq (sAssign (.loc 2) (eCall (F_add ob) [(eLoc 2), (eCall (F_mul ob) [(eItem (eLoc 0) (eLoc 3)), (eItem (eLoc 1) (eLoc 3))])])) sNil)) (sSeq (sRet (eLoc 2)) sNil)))
noncomputable def F_law_back (ob : Or) : MF := fn 2 [some 0, some 1, none, none] [] (B_law_back ob)
noncomputable def B_law (ob : Or) : MS := (sSeq (sAssign (.loc 1) (eCall (F_law_needs ob) [(eLoc 0)])) (sSeq (sUnpack (.loc 2) (.cel 0) (eCall (F_law_table ob) [(eLoc 1)])) (sSeq (sAssign (.cel 1) (eCall (F_law_under ob) [(eLoc 1)])) (sSeq (sAssign (.cel 2) (eCall fLen [(eLoc 1)])) (sSeq (sIf (tCmp .NotEq (eLoc 2) (eComp (eCel 1) (eCall fSum [(eComp (eLoc 0) (eBin ob.bit .Pow (eK (.int (.k 2))) (eLoc 0)) (.loc 0) (fun f s => some (true, f, s)) 1 false [])]) (.loc 0) (fun f s => some (true, f, s)) 1 false [])) (sSeq (sRet (eK (.bool false))) sNil) sNil) (sSeq (sIf (tCmp .NotEq (eCel 0) (eComp (eCall fRange [(eCel 2)]) (eComp (eCall fRange [(eCel 1)]) (eCall (F_law_chains ob 10) [(eCel 0), (eCel 1), (eLoc 0)]) (.loc 0) (fun f s => some (true, f, s)) 1 false [2, 0]) (.cel 0) (fun f s => some (true, f, s)) 0 true [2, 1])) (sSeq (sRet (eK (.bool false))) sNil) sNil) (sSeq (sAssign (.cel 3) (eVals ob.zs (eLoc 0) (eCel 2))) (sSeq (sAssign (.cel 4) (eComp (eCel 1) (eCall fSum [(eComp (eLoc 0) (eItem (eCel 0) (eLoc 0)) (.loc 0) (fun f s => some (true, f, s)) 1 false [0])]) (.loc 0) (fun f s => some (true, f, s)) 1 false [3])) (sSeq (sRet (eCmp .Eq (eComp (eCall fRange [(eCel 2)]) (eCall (F_law_back ob) [(eComp (eCel 1) (eItem (eLoc 0) (eCel 0)) (.loc 0) (fun f s => some (true, f, s)) 1 false [0]), (eCel 2)]) (.cel 0) (fun f s => some (true, f, s)) 0 true [0, 4]) (eCel 3))) sNil)))))))))
noncomputable def F_law (ob : Or) : MF := fn 1 [some 0, none, none] [none, none, none, none, none] (B_law ob)
end Mine

end
section
namespace Mine
open PySem PySem.W PyProof.Rows PySem.Calls

abbrev NsM := Str → Option Value
noncomputable def lin : List Int → List Int → Int
  | c :: cs, x :: xs => c * x + lin cs xs
  | _, _ => 0
noncomputable def Z.den (σ : List Int) : Z → Int
  | .k c => c
  | .l c cs => c + lin cs σ
  | .d j b => Int.fdiv (σ.getD j 0) (2 ^ b)

noncomputable def AbsV (σ : List Int) (ρ : List Addr) : MV → Value → Prop
  | .none, v => v = .none
  | .bool b, v => v = .bool b
  | .int z, v => ∃ t, v = .int (z.den σ) t
  | .ref i, v => ∃ a, ρ[i]? = some a ∧ v = .ref a
  | .val u, v => v = u
noncomputable def AbsVs (σ : List Int) (ρ : List Addr) : List MV → List Value → Prop
  | [], [] => True
  | x :: xs, v :: vs => AbsV σ ρ x v ∧ AbsVs σ ρ xs vs
  | _, _ => False
noncomputable def AbsOp (σ : List Int) (ρ : List Addr) : Option MV → Option Value → Prop
  | some x, v => ∃ u, v = some u ∧ AbsV σ ρ x u
  | none, _ => True
noncomputable def AbsKv (σ : List Int) (ρ : List Addr) : List (Int × MV) → List (Int × Value) → Prop
  | [], [] => True
  | (k, x) :: xs, (l, v) :: vs => k = l ∧ AbsV σ ρ x v ∧ AbsKv σ ρ xs vs
  | _, _ => False

noncomputable def Ext (ρ ρ' : List Addr) : Prop := ∃ l, ρ' = ρ ++ l
theorem Ext.refl (ρ : List Addr) : Ext ρ ρ := ⟨[], by simp⟩
theorem Ext.trans {a b c : List Addr} (x : Ext a b) (y : Ext b c) : Ext a c := by
  obtain ⟨l, rfl⟩ := x; obtain ⟨k, rfl⟩ := y; exact ⟨l ++ k, by simp⟩
theorem Ext.snoc (ρ : List Addr) (a : Addr) : Ext ρ (ρ ++ [a]) := ⟨[a], rfl⟩
theorem Ext.get {ρ ρ' : List Addr} (x : Ext ρ ρ') {i : Nat} {a : Addr} (h : ρ[i]? = some a) : ρ'[i]? = some a := by
  obtain ⟨l, rfl⟩ := x
  obtain ⟨hi, e⟩ := List.getElem?_eq_some_iff.mp h
  rw [List.getElem?_append_left hi]; exact h

theorem AbsV.mono {σ : List Int} {ρ ρ' : List Addr} (x : Ext ρ ρ') : ∀ {m : MV} {v : Value}, AbsV σ ρ m v → AbsV σ ρ' m v
  | .none, _, h => h
  | .bool _, _, h => h
  | .int _, _, h => h
  | .ref _, _, ⟨a, e, r⟩ => ⟨a, x.get e, r⟩
  | .val _, _, h => h
theorem AbsVs.mono {σ : List Int} {ρ ρ' : List Addr} (x : Ext ρ ρ') : ∀ {m : List MV} {v : List Value}, AbsVs σ ρ m v → AbsVs σ ρ' m v
  | [], [], _ => trivial
  | _ :: _, _ :: _, ⟨a, b⟩ => ⟨a.mono x, AbsVs.mono x b⟩
  | [], _ :: _, h => h.elim
  | _ :: _, [], h => h.elim
theorem AbsOp.mono {σ : List Int} {ρ ρ' : List Addr} (x : Ext ρ ρ') : ∀ {m : Option MV} {v : Option Value}, AbsOp σ ρ m v → AbsOp σ ρ' m v
  | some _, _, ⟨u, e, a⟩ => ⟨u, e, a.mono x⟩
  | none, _, _ => trivial
theorem AbsKv.mono {σ : List Int} {ρ ρ' : List Addr} (x : Ext ρ ρ') : ∀ {m : List (Int × MV)} {v : List (Int × Value)}, AbsKv σ ρ m v → AbsKv σ ρ' m v
  | [], [], _ => trivial
  | (_, _) :: _, (_, _) :: _, ⟨a, b, c⟩ => ⟨a, b.mono x, AbsKv.mono x c⟩
  | [], _ :: _, h => h.elim
  | (_, _) :: _, [], h => h.elim
theorem AbsVs.length {σ : List Int} {ρ : List Addr} : ∀ {m : List MV} {v : List Value}, AbsVs σ ρ m v → m.length = v.length
  | [], [], _ => rfl
  | _ :: _, _ :: _, ⟨_, b⟩ => by rw [List.length_cons, List.length_cons, AbsVs.length b]
  | [], _ :: _, h => h.elim
  | _ :: _, [], h => h.elim
theorem AbsVs.append {σ : List Int} {ρ : List Addr} : ∀ {m m' : List MV} {v v' : List Value}, AbsVs σ ρ m v → AbsVs σ ρ m' v' → AbsVs σ ρ (m ++ m') (v ++ v')
  | [], _, [], _, _, h => h
  | _ :: _, _, _ :: _, _, ⟨a, b⟩, h => ⟨a, AbsVs.append b h⟩
  | [], _, _ :: _, _, h, _ => h.elim
  | _ :: _, _, [], _, h, _ => h.elim
theorem AbsVs.get {σ : List Int} {ρ : List Addr} : ∀ {m : List MV} {v : List Value}, AbsVs σ ρ m v → ∀ {i : Nat} {x : MV}, m[i]? = some x → ∃ u, v[i]? = some u ∧ AbsV σ ρ x u
  | [], [], _, _, _, e => by cases e
  | _ :: _, _ :: _, ⟨a, b⟩, 0, _, e => by cases e; exact ⟨_, rfl, a⟩
  | _ :: _, _ :: _, ⟨a, b⟩, i + 1, _, e => by
    have e' : (_ : List MV)[i]? = some _ := e
    obtain ⟨u, h1, h2⟩ := AbsVs.get b e'
    exact ⟨u, h1, h2⟩
  | [], _ :: _, h, _, _, _ => h.elim
  | _ :: _, [], h, _, _, _ => h.elim
theorem AbsVs.none {σ : List Int} {ρ : List Addr} {m : List MV} {v : List Value} (h : AbsVs σ ρ m v) {i : Nat} (e : m[i]? = Option.none) : v[i]? = Option.none := by
  rw [List.getElem?_eq_none_iff] at e ⊢
  rw [← h.length]; exact e

/-- what the text's two classes are, and where they lie -/
structure Cls where
  T : Addr
  N : Addr
  S : Addr

noncomputable def selfNames : List Str := ["_node2info", "_ready_nodes", "_npassedout", "_nfinished"]
section
variable (prog : Program) (w : World) (cc : Cls) (σ : List Int)
noncomputable def AbsH (ρ : List Addr) (h : Heap) (a : Addr) : MO → Prop
  | .list xs => ∃ vs, h.PlainList a vs ∧ AbsVs σ ρ xs vs.toList
  | .tup xs => ∃ vs, (∃ n, h.get? a = some { cls := .type "tuple", data := .seq vs n }) ∧ AbsVs σ ρ xs vs.toList
  | .dict es v => ∃ kvs ep, ρ[v]? = some ep ∧ h.DictAt (intKind prog w) a kvs ep ∧ AbsKv σ ρ es kvs
  | .iset xs => ∃ o, h.get? a = some o ∧ o.SetObjOf (intKind prog w) (fun k => hasInt k xs) xs.length
  | .inst d => ∃ da, ρ[d]? = some da ∧ h.get? a = some (instObj cc.T da)
  | .idict x0 x1 x2 x3 => ∃ m, h.Ns1 a m ∧ Within m selfNames ∧ AbsOp σ ρ x0 (m "_node2info") ∧ AbsOp σ ρ x1 (m "_ready_nodes") ∧ AbsOp σ ρ x2 (m "_npassedout") ∧ AbsOp σ ρ x3 (m "_nfinished")
  | .node d x0 x1 x2 => ∃ o da, h.get? a = some o ∧ o.cls = .ref cc.N ∧ ρ[d]? = some da ∧ o.dict = some da ∧ o.data = .plain ∧ AbsOp σ ρ x0 (o.slots[0]?).join ∧ AbsOp σ ρ x1 (o.slots[1]?).join ∧ AbsOp σ ρ x2 (o.slots[2]?).join
  | .cell v => ∃ o u, h.get? a = some o ∧ o.data = .cell u ∧ AbsOp σ ρ v u
  | .range x y z => ∃ t u v, IsRange h a x y z t u v
  | .vals d => ∃ da, ρ[d]? = some da ∧ h.IsValuesView a da
  | .liter l k => ∃ la, ρ[l]? = some la ∧ h.IsListIter a la k
  | .titer l k => ∃ la, ρ[l]? = some la ∧ h.IsTupleIter a la k
  | .riter x l s => IsRangeIter h a x l s
  | .kiter d k n v => ∃ da ep, ρ[d]? = some da ∧ ρ[v]? = some ep ∧ h.IsKeyIter a da k n ep
  | .viter d k n v => ∃ da ep, ρ[d]? = some da ∧ ρ[v]? = some ep ∧ h.IsValIter a da k n ep
  | .next it => ∃ ia, ρ[it]? = some ia ∧ h.get? a = some { cls := .type "method-wrapper", data := .fields #[.builtin "list_iterator.__next__", .ref ia] }
  | .bound f i => ∃ ia, ρ[i]? = some ia ∧ h.get? a = some (methodObj (.ref f) (.ref ia))
  | .fresh l => ∃ la, ρ[l]? = some la ∧ h.get? a = some { cls := .type "list_iterator", data := .fields #[.ref la, .int 0 0] }
end

section
variable {prog : Program} {w : World} {cc : Cls} {σ : List Int}
theorem AbsH.mono {ρ ρ' : List Addr} {h : Heap} {a : Addr} (x : Ext ρ ρ') : ∀ {o : MO}, AbsH prog w cc σ ρ h a o → AbsH prog w cc σ ρ' h a o
  | .list _, ⟨v, p, q⟩ => ⟨v, p, q.mono x⟩
  | .tup _, ⟨v, p, q⟩ => ⟨v, p, q.mono x⟩
  | .dict _ _, ⟨v, e, y, p, q⟩ => ⟨v, e, x.get y, p, q.mono x⟩
  | .iset _, y => y
  | .inst _, ⟨d, p, q⟩ => ⟨d, x.get p, q⟩
  | .idict _ _ _ _, ⟨m, p, q, r0, r1, r2, r3⟩ => ⟨m, p, q, r0.mono x, r1.mono x, r2.mono x, r3.mono x⟩
  | .node _ _ _ _, ⟨o, da, p, q, y, q1, q2, r0, r1, r2⟩ => ⟨o, da, p, q, x.get y, q1, q2, r0.mono x, r1.mono x, r2.mono x⟩
  | .cell _, ⟨o, u, p, q, r⟩ => ⟨o, u, p, q, r.mono x⟩
  | .range _ _ _, y => y
  | .vals _, ⟨d, p, q⟩ => ⟨d, x.get p, q⟩
  | .liter _ _, ⟨d, p, q⟩ => ⟨d, x.get p, q⟩
  | .titer _ _, ⟨d, p, q⟩ => ⟨d, x.get p, q⟩
  | .riter _ _ _, y => y
  | .kiter _ _ _ _, ⟨d, e, p, y, q⟩ => ⟨d, e, x.get p, x.get y, q⟩
  | .viter _ _ _ _, ⟨d, e, p, y, q⟩ => ⟨d, e, x.get p, x.get y, q⟩
  | .next _, ⟨d, p, q⟩ => ⟨d, x.get p, q⟩
  | .bound _ _, ⟨d, p, q⟩ => ⟨d, x.get p, q⟩
  | .fresh _, ⟨d, p, q⟩ => ⟨d, x.get p, q⟩
theorem AbsH.at {ρ : List Addr} {h h' : Heap} {a : Addr} (k : ∀ o, h.get? a = some o → h'.get? a = some o) : ∀ {o : MO}, AbsH prog w cc σ ρ h a o → AbsH prog w cc σ ρ h' a o
  | .list _, ⟨v, ⟨n, p⟩, q⟩ => ⟨v, ⟨n, k _ p⟩, q⟩
  | .tup _, ⟨v, ⟨n, p⟩, q⟩ => ⟨v, ⟨n, k _ p⟩, q⟩
  | .dict _ _, ⟨v, e, y, p, q⟩ => ⟨v, e, y, p.at' k, q⟩
  | .iset _, ⟨o, p, q⟩ => ⟨o, k _ p, q⟩
  | .inst _, ⟨d, p, q⟩ => ⟨d, p, k _ q⟩
  | .idict _ _ _ _, ⟨m, p, r⟩ => ⟨m, p.at k, r⟩
  | .node _ _ _ _, ⟨o, da, p, q⟩ => ⟨o, da, k _ p, q⟩
  | .cell _, ⟨o, u, p, q⟩ => ⟨o, u, k _ p, q⟩
  | .range _ _ _, ⟨t, u, v, p⟩ => ⟨t, u, v, k _ p⟩
  | .vals _, ⟨d, p, ⟨o, q, q'⟩⟩ => ⟨d, p, ⟨o, k _ q, q'⟩⟩
  | .liter _ _, ⟨d, p, q⟩ => ⟨d, p, q.at k⟩
  | .titer _ _, ⟨d, p, q⟩ => ⟨d, p, q.at k⟩
  | .riter _ _ _, y => k _ y
  | .kiter _ _ _ _, ⟨d, e, p, y, q⟩ => ⟨d, e, p, y, q.at k⟩
  | .viter _ _ _ _, ⟨d, e, p, y, q⟩ => ⟨d, e, p, y, q.at k⟩
  | .next _, ⟨d, p, q⟩ => ⟨d, p, k _ q⟩
  | .bound _ _, ⟨d, p, q⟩ => ⟨d, p, k _ q⟩
  | .fresh _, ⟨d, p, q⟩ => ⟨d, p, k _ q⟩
theorem AbsH.ex {ρ : List Addr} {h : Heap} {a : Addr} : ∀ {o : MO}, AbsH prog w cc σ ρ h a o → ∃ ob, h.get? a = some ob
  | .list _, ⟨_, ⟨_, p⟩, _⟩ => ⟨_, p⟩
  | .tup _, ⟨_, ⟨_, p⟩, _⟩ => ⟨_, p⟩
  | .dict _ _, ⟨_, _, _, ⟨_, _, p, _⟩, _⟩ => ⟨_, p⟩
  | .iset _, ⟨_, p, _⟩ => ⟨_, p⟩
  | .inst _, ⟨_, _, q⟩ => ⟨_, q⟩
  | .idict _ _ _ _, ⟨_, ⟨_, _, _, p, _⟩, _⟩ => ⟨_, p⟩
  | .node _ _ _ _, ⟨_, _, p, _⟩ => ⟨_, p⟩
  | .cell _, ⟨_, _, p, _⟩ => ⟨_, p⟩
  | .range _ _ _, ⟨_, _, _, p⟩ => ⟨_, p⟩
  | .vals _, ⟨_, _, ⟨_, q, _⟩⟩ => ⟨_, q⟩
  | .liter _ _, ⟨_, _, ⟨_, q, _⟩⟩ => ⟨_, q⟩
  | .titer _ _, ⟨_, _, ⟨_, q, _⟩⟩ => ⟨_, q⟩
  | .riter _ _ _, y => ⟨_, y⟩
  | .kiter _ _ _ _, ⟨_, _, _, _, ⟨_, q, _⟩⟩ => ⟨_, q⟩
  | .viter _ _ _ _, ⟨_, _, _, _, ⟨_, q, _⟩⟩ => ⟨_, q⟩
  | .next _, ⟨_, _, q⟩ => ⟨_, q⟩
  | .bound _ _, ⟨_, _, q⟩ => ⟨_, q⟩
  | .fresh _, ⟨_, _, q⟩ => ⟨_, q⟩
end

-- the tree
theorem PT.get_node {α : Type} (v : Option α) (l r : PT α) (i : Nat) : (PT.node v l r).get i = if i = 0 then v else if i % 2 = 1 then l.get (i / 2) else r.get (i / 2 - 1) := by
  have e : (PT.node v l r).get i = @Bool.rec (fun _ => Option α) (@Bool.rec (fun _ => Option α) (r.get (i / 2 - 1)) (l.get (i / 2)) (Nat.beq (i % 2) 1)) v (Nat.beq i 0) := rfl
  rw [e, BT.beq_eq, BT.beq_eq]
  by_cases h : i = 0
  · simp [h]
  · by_cases q : i % 2 = 1 <;> simp [h, q]
theorem PT.half1 {i j : Nat} (h : i / 2 = j / 2) (a : i % 2 = 1) (b : j % 2 = 1) : i = j := by omega
theorem PT.half2 {i j : Nat} (h : i / 2 - 1 = j / 2 - 1) (a0 : i ≠ 0) (b0 : j ≠ 0) (a : ¬ i % 2 = 1) (b : ¬ j % 2 = 1) : i = j := by omega
theorem PT.set_cons {α : Type} (f : Nat) (v : Option α) (l r : PT α) (i : Nat) (x : α) : PT.set (f + 1) (.node v l r) i x =
    if i = 0 then .node (some x) l r else if i % 2 = 1 then .node v (PT.set f l (i / 2) x) r else .node v l (PT.set f r (i / 2 - 1) x) := by
  have e : PT.set (f + 1) (.node v l r) i x = @Bool.rec (fun _ => PT α) (@Bool.rec (fun _ => PT α) (.node v l (PT.set f r (i / 2 - 1) x)) (.node v (PT.set f l (i / 2) x) r) (Nat.beq (i % 2) 1)) (.node (some x) l r) (Nat.beq i 0) := rfl
  rw [e, BT.beq_eq, BT.beq_eq]
  by_cases h : i = 0
  · simp [h]
  · by_cases q : i % 2 = 1 <;> simp [h, q]
theorem PT.set_nil {α : Type} (f : Nat) (i : Nat) (x : α) : PT.set (f + 1) .nil i x =
    if i = 0 then .node (some x) .nil .nil else if i % 2 = 1 then .node none (PT.set f .nil (i / 2) x) .nil else .node none .nil (PT.set f .nil (i / 2 - 1) x) := by
  have e : PT.set (f + 1) (PT.nil : PT α) i x = @Bool.rec (fun _ => PT α) (@Bool.rec (fun _ => PT α) (.node none .nil (PT.set f .nil (i / 2 - 1) x)) (.node none (PT.set f .nil (i / 2) x) .nil) (Nat.beq (i % 2) 1)) (.node (some x) .nil .nil) (Nat.beq i 0) := rfl
  rw [e, BT.beq_eq, BT.beq_eq]
  by_cases h : i = 0
  · simp [h]
  · by_cases q : i % 2 = 1 <;> simp [h, q]
theorem PT.get_set {α : Type} : ∀ (f : Nat) (t : PT α) (i : Nat) (x : α) (j : Nat) (o : α), (PT.set f t i x).get j = some o → (j = i ∧ o = x) ∨ (j ≠ i ∧ t.get j = some o)
  | 0, _, _, _, _, _, e => by cases e
  | f + 1, .nil, i, x, j, o, e => by
    rw [PT.set_nil] at e
    by_cases h : i = 0
    · rw [if_pos h, PT.get_node] at e
      by_cases hj : j = 0
      · rw [if_pos hj] at e; cases e; exact .inl ⟨by omega, rfl⟩
      · rw [if_neg hj] at e; split at e <;> cases e
    · rw [if_neg h] at e
      by_cases q : i % 2 = 1
      · rw [if_pos q, PT.get_node] at e
        by_cases hj : j = 0
        · rw [if_pos hj] at e; cases e
        · rw [if_neg hj] at e
          by_cases qj : j % 2 = 1
          · rw [if_pos qj] at e
            rcases PT.get_set f .nil (i / 2) x (j / 2) o e with ⟨a, b⟩ | ⟨a, b⟩
            · exact .inl ⟨PT.half1 a qj q, b⟩
            · cases b
          · rw [if_neg qj] at e; cases e
      · rw [if_neg q, PT.get_node] at e
        by_cases hj : j = 0
        · rw [if_pos hj] at e; cases e
        · rw [if_neg hj] at e
          by_cases qj : j % 2 = 1
          · rw [if_pos qj] at e; cases e
          · rw [if_neg qj] at e
            rcases PT.get_set f .nil (i / 2 - 1) x (j / 2 - 1) o e with ⟨a, b⟩ | ⟨a, b⟩
            · exact .inl ⟨PT.half2 a hj h qj q, b⟩
            · cases b
  | f + 1, .node v l r, i, x, j, o, e => by
    rw [PT.set_cons] at e
    rw [PT.get_node]
    by_cases h : i = 0
    · rw [if_pos h, PT.get_node] at e
      by_cases hj : j = 0
      · rw [if_pos hj] at e; cases e; exact .inl ⟨by omega, rfl⟩
      · rw [if_neg hj] at e ⊢; exact .inr ⟨by omega, e⟩
    · rw [if_neg h] at e
      by_cases q : i % 2 = 1
      · rw [if_pos q, PT.get_node] at e
        by_cases hj : j = 0
        · rw [if_pos hj] at e ⊢; exact .inr ⟨by omega, e⟩
        · rw [if_neg hj] at e ⊢
          by_cases qj : j % 2 = 1
          · rw [if_pos qj] at e ⊢
            rcases PT.get_set f l (i / 2) x (j / 2) o e with ⟨a, b⟩ | ⟨a, b⟩
            · exact .inl ⟨PT.half1 a qj q, b⟩
            · exact .inr ⟨fun z => a (by rw [z]), b⟩
          · rw [if_neg qj] at e ⊢; exact .inr ⟨fun z => qj (z ▸ q), e⟩
      · rw [if_neg q, PT.get_node] at e
        by_cases hj : j = 0
        · rw [if_pos hj] at e ⊢; exact .inr ⟨by omega, e⟩
        · rw [if_neg hj] at e ⊢
          by_cases qj : j % 2 = 1
          · rw [if_pos qj] at e ⊢; exact .inr ⟨fun z => q (z ▸ qj), e⟩
          · rw [if_neg qj] at e ⊢
            rcases PT.get_set f r (i / 2 - 1) x (j / 2 - 1) o e with ⟨a, b⟩ | ⟨a, b⟩
            · exact .inl ⟨PT.half2 a hj h qj q, b⟩
            · exact .inr ⟨fun z => a (by rw [z]), b⟩
theorem PT.del_cons {α : Type} (v : Option α) (l r : PT α) (i : Nat) : PT.del (.node v l r) i =
    if i = 0 then .node none l r else if i % 2 = 1 then .node v (l.del (i / 2)) r else .node v l (r.del (i / 2 - 1)) := by
  have e : PT.del (.node v l r) i = @Bool.rec (fun _ => PT α) (@Bool.rec (fun _ => PT α) (.node v l (r.del (i / 2 - 1))) (.node v (l.del (i / 2)) r) (Nat.beq (i % 2) 1)) (.node none l r) (Nat.beq i 0) := rfl
  rw [e, BT.beq_eq, BT.beq_eq]
  by_cases h : i = 0
  · simp [h]
  · by_cases q : i % 2 = 1 <;> simp [h, q]
theorem PT.get_del {α : Type} : ∀ (t : PT α) (i j : Nat) (o : α), (t.del i).get j = some o → j ≠ i ∧ t.get j = some o
  | .nil, _, _, _, e => by cases e
  | .node v l r, i, j, o, e => by
    rw [PT.del_cons] at e
    rw [PT.get_node]
    by_cases h : i = 0
    · rw [if_pos h, PT.get_node] at e
      by_cases hj : j = 0
      · rw [if_pos hj] at e; cases e
      · rw [if_neg hj] at e ⊢; exact ⟨by omega, e⟩
    · rw [if_neg h] at e
      by_cases q : i % 2 = 1
      · rw [if_pos q, PT.get_node] at e
        by_cases hj : j = 0
        · rw [if_pos hj] at e ⊢; exact ⟨by omega, e⟩
        · rw [if_neg hj] at e ⊢
          by_cases qj : j % 2 = 1
          · rw [if_pos qj] at e ⊢
            obtain ⟨a, b⟩ := PT.get_del l (i / 2) (j / 2) o e
            exact ⟨fun z => a (by rw [z]), b⟩
          · rw [if_neg qj] at e ⊢; exact ⟨fun z => qj (z ▸ q), e⟩
      · rw [if_neg q, PT.get_node] at e
        by_cases hj : j = 0
        · rw [if_pos hj] at e ⊢; exact ⟨by omega, e⟩
        · rw [if_neg hj] at e ⊢
          by_cases qj : j % 2 = 1
          · rw [if_pos qj] at e ⊢; exact ⟨fun z => q (z ▸ qj), e⟩
          · rw [if_neg qj] at e ⊢
            obtain ⟨a, b⟩ := PT.get_del r (i / 2 - 1) (j / 2 - 1) o e
            exact ⟨fun z => a (by rw [z]), b⟩

theorem St.put_get {st : St} {i j : Nat} {o oj : MO} (e : (st.put i o).H.get j = some oj) : (j = i ∧ oj = o) ∨ (j ≠ i ∧ st.H.get j = some oj) := PT.get_set 12 st.H i o j oj e
theorem St.add_get {st : St} {j : Nat} {o oj : MO} (e : (st.add o).H.get j = some oj) : (j = st.n ∧ oj = o) ∨ (j ≠ st.n ∧ st.H.get j = some oj) := PT.get_set 12 st.H st.n o j oj e
theorem St.drop_get {st : St} {i j : Nat} {oj : MO} (e : (st.drop i).H.get j = some oj) : j ≠ i ∧ st.H.get j = some oj := PT.get_del st.H i j oj e
-- heap and evaluator's state
structure Rel (prog : Program) (w : World) (cc : Cls) (σ : List Int) (t : Heap) (fs : List (Addr × NsM)) (ρ : List Addr) (st : St) (h : Heap) : Prop where
  top : ∀ b o, t.get? b = some o → h.get? b = some o
  frs : ∀ p ∈ fs, h.Ns p.1 p.2 ∧ t.get? p.1 = none
  fnd : (fs.map (·.1)).Nodup
  len : ρ.length = st.n
  obj : ∀ i o, st.H.get i = some o → ∃ a, ρ[i]? = some a ∧ AbsH prog w cc σ ρ h a o ∧ t.get? a = none ∧ (∀ p ∈ fs, p.1 ≠ a) ∧ sysModules < a
  nl : t.NoLimit
  inj : ∀ i j oi oj a, st.H.get i = some oi → st.H.get j = some oj → ρ[i]? = some a → ρ[j]? = some a → i = j
  scr : ρ[0]? = some cc.S

section
variable {prog : Program} {w : World} {cc : Cls} {σ : List Int} {t : Heap} {fs : List (Addr × NsM)} {ρ : List Addr} {st : St} {h h' : Heap}
/-- what is there stays: nothing of it changes -/
theorem Rel.more (R : Rel prog w cc σ t fs ρ st h) (k : ∀ b o, h.get? b = some o → h'.get? b = some o) : Rel prog w cc σ t fs ρ st h' where
  top := fun b o e => k b o (R.top b o e)
  frs := fun p hp => ⟨(R.frs p hp).1.keeps k, (R.frs p hp).2⟩
  fnd := R.fnd
  len := R.len
  obj := fun i o e => let ⟨a, ha, hb, r⟩ := R.obj i o e; ⟨a, ha, hb.at fun o e => k _ o e, r⟩
  nl := R.nl
  inj := R.inj
  scr := R.scr
/-- one own object becomes another -/
theorem Rel.put (R : Rel prog w cc σ t fs ρ st h) {i : Nat} {o o' : MO} {a : Addr} (hi : st.H.get i = some o) (ha : ρ[i]? = some a)
    (k : ∀ b ob, b ≠ a → h.get? b = some ob → h'.get? b = some ob) (hn : AbsH prog w cc σ ρ h' a o') : Rel prog w cc σ t fs ρ (st.put i o') h' := by
  obtain ⟨a', ha', _, hoff, hfr, hlo⟩ := R.obj i o hi
  rw [ha] at ha'; cases ha'
  refine ⟨fun b ob e => k b ob (fun z => ?_) (R.top b ob e), fun p hp => ⟨(R.frs p hp).1.at' fun ob e => k _ ob (hfr p hp) e, (R.frs p hp).2⟩, R.fnd, R.len, fun j oj e => ?_, R.nl, fun j l oj ol b ej el hj hl => ?_, R.scr⟩
  · rw [z, hoff] at e; cases e
  · rcases St.put_get e with ⟨rfl, rfl⟩ | ⟨hne, e'⟩
    · exact ⟨a, ha, hn, hoff, hfr, hlo⟩
    · obtain ⟨b, hb, hA, r⟩ := R.obj j oj e'
      refine ⟨b, hb, hA.at fun ob eb => k b ob (fun z => ?_) eb, r⟩
      exact hne (R.inj j i oj o a e' hi (z ▸ hb) ha)
  · have hj' : ∃ oj', st.H.get j = some oj' := by
      rcases St.put_get ej with ⟨rfl, _⟩ | ⟨_, e'⟩
      · exact ⟨_, hi⟩
      · exact ⟨_, e'⟩
    have hl' : ∃ ol', st.H.get l = some ol' := by
      rcases St.put_get el with ⟨rfl, _⟩ | ⟨_, e'⟩
      · exact ⟨_, hi⟩
      · exact ⟨_, e'⟩
    obtain ⟨_, ej'⟩ := hj'
    obtain ⟨_, el'⟩ := hl'
    exact R.inj j l _ _ b ej' el' hj hl
/-- one own object is forgotten, and may be anything -/
theorem Rel.drop (R : Rel prog w cc σ t fs ρ st h) {i : Nat} {o : MO} {a : Addr} (hi : st.H.get i = some o) (ha : ρ[i]? = some a)
    (k : ∀ b ob, b ≠ a → h.get? b = some ob → h'.get? b = some ob) : Rel prog w cc σ t fs ρ (st.drop i) h' := by
  obtain ⟨a', ha', _, hoff, hfr, hlo⟩ := R.obj i o hi
  rw [ha] at ha'; cases ha'
  refine ⟨fun b ob e => k b ob (fun z => ?_) (R.top b ob e), fun p hp => ⟨(R.frs p hp).1.at' fun ob e => k _ ob (hfr p hp) e, (R.frs p hp).2⟩, R.fnd, R.len, fun j oj e => ?_, R.nl, fun j l oj ol b ej el hj hl => ?_, R.scr⟩
  · rw [z, hoff] at e; cases e
  · obtain ⟨hne, e'⟩ := St.drop_get e
    obtain ⟨b, hb, hA, r⟩ := R.obj j oj e'
    refine ⟨b, hb, hA.at fun ob eb => k b ob (fun z => ?_) eb, r⟩
    exact hne (R.inj j i oj o a e' hi (z ▸ hb) ha)
  · exact R.inj j l _ _ b (St.drop_get ej).2 (St.drop_get el).2 hj hl
theorem Rel.fresh (R : Rel prog w cc σ t fs ρ st h) : t.get? h.objs.size = none ∧ (∀ p ∈ fs, p.1 ≠ h.objs.size) ∧ (∀ i o a, st.H.get i = some o → ρ[i]? = some a → a ≠ h.objs.size) ∧ sysModules < h.objs.size := by
  refine ⟨?_, fun p hp => Nat.ne_of_lt (R.frs p hp).1.lt, fun i o a e ha => ?_, modules_low (R.nl.keeps R.top)⟩
  · cases q : t.get? h.objs.size with
    | none => rfl
    | some o => exact absurd (Heap.lt_size (R.top _ _ q)) (Nat.lt_irrefl _)
  · obtain ⟨a', ha', hA, _⟩ := R.obj i o e
    rw [ha] at ha'; cases ha'
    obtain ⟨ob, eb⟩ := hA.ex
    exact Nat.ne_of_lt (Heap.lt_size eb)
/-- a new own object at a, which lies in no frame, not in the top, and is no elder own one -/
theorem Rel.addAt (R : Rel prog w cc σ t fs ρ st h) {a : Addr} {o : MO} (k : ∀ b ob, h.get? b = some ob → h'.get? b = some ob)
    (ht : t.get? a = none) (hf : ∀ p ∈ fs, p.1 ≠ a) (ho : ∀ i o b, st.H.get i = some o → ρ[i]? = some b → b ≠ a) (hlo : sysModules < a)
    (hn : AbsH prog w cc σ (ρ ++ [a]) h' a o) : Rel prog w cc σ t fs (ρ ++ [a]) (st.add o) h' := by
  have hlast : (ρ ++ [a])[st.n]? = some a := by rw [← R.len]; simp
  have old : ∀ i oi, st.H.get i = some oi → ∃ b, ρ[i]? = some b ∧ (ρ ++ [a])[i]? = some b := fun i oi e => by
    obtain ⟨b, hb, _⟩ := R.obj i oi e
    exact ⟨b, hb, (Ext.snoc ρ a).get hb⟩
  refine ⟨fun b ob e => k b ob (R.top b ob e), fun p hp => ⟨(R.frs p hp).1.keeps k, (R.frs p hp).2⟩, R.fnd, by simp [R.len, St.add], fun j oj e => ?_, R.nl, fun j l oj ol b ej el hj hl => ?_, (Ext.snoc ρ a).get R.scr⟩
  · rcases St.add_get e with ⟨rfl, rfl⟩ | ⟨hne, e'⟩
    · exact ⟨a, hlast, hn, ht, hf, hlo⟩
    · obtain ⟨b, hb, hA, r⟩ := R.obj j oj e'
      exact ⟨b, (Ext.snoc ρ a).get hb, (hA.mono (Ext.snoc ρ a)).at fun ob eb => k b ob eb, r⟩
  · rcases St.add_get ej with ⟨rfl, _⟩ | ⟨hnj, ej'⟩
    · rw [hlast] at hj; cases hj
      rcases St.add_get el with ⟨rfl, _⟩ | ⟨hnl, el'⟩
      · rfl
      · obtain ⟨c, hc, hc'⟩ := old l _ el'
        rw [hl] at hc'; cases hc'
        exact absurd rfl (ho l _ a el' hc)
    · obtain ⟨c, hc, hc'⟩ := old j _ ej'
      rw [hj] at hc'; cases hc'
      rcases St.add_get el with ⟨rfl, _⟩ | ⟨hnl, el'⟩
      · rw [hlast] at hl; cases hl
        exact absurd rfl (ho j _ a ej' hc)
      · obtain ⟨d, hd, hd'⟩ := old l _ el'
        rw [hl] at hd'; cases hd'
        exact R.inj j l _ _ b ej' el' hc hd
theorem Rel.add (R : Rel prog w cc σ t fs ρ st h) {o : MO} (k : ∀ b ob, h.get? b = some ob → h'.get? b = some ob)
    (hn : AbsH prog w cc σ (ρ ++ [h.objs.size]) h' h.objs.size o) : Rel prog w cc σ t fs (ρ ++ [h.objs.size]) (st.add o) h' :=
  R.addAt k R.fresh.1 R.fresh.2.1 R.fresh.2.2.1 R.fresh.2.2.2 hn
theorem Rel.ghost (R : Rel prog w cc σ t fs ρ st h) (e : Nat) : Rel prog w cc σ t fs (ρ ++ [e]) st.ghost h where
  top := R.top
  frs := R.frs
  fnd := R.fnd
  len := by simp [R.len, St.ghost]
  obj := fun i o ei => let ⟨a, ha, hb, r⟩ := R.obj i o ei; ⟨a, (Ext.snoc ρ e).get ha, hb.mono (Ext.snoc ρ e), r⟩
  nl := R.nl
  scr := (Ext.snoc ρ e).get R.scr
  inj := fun i j oi oj a ei ej hi hj => by
    obtain ⟨b, hb, _⟩ := R.obj i oi ei
    obtain ⟨c, hc, _⟩ := R.obj j oj ej
    rw [(Ext.snoc ρ e).get hb] at hi
    rw [(Ext.snoc ρ e).get hc] at hj
    cases hi; cases hj
    exact R.inj i j oi oj _ ei ej hb hc
/-- the innermost frame's names change -/
theorem Rel.frame {L : Addr} {m m' : NsM} (R : Rel prog w cc σ t ((L, m) :: fs) ρ st h) (hn : h'.Ns L m') (hs : Heap.SameBut L h h') : Rel prog w cc σ t ((L, m') :: fs) ρ st h' := by
  have hL := (R.frs _ (List.mem_cons_self ..)).2
  have hnd := R.fnd
  rw [List.map_cons, List.nodup_cons] at hnd
  refine ⟨fun b o e => (hs.2 b fun z => ?_).trans (R.top b o e), fun p hp => ?_, R.fnd, R.len, fun i o e => ?_, R.nl, R.inj, R.scr⟩
  · rw [z] at e; rw [hL] at e; cases e
  · rcases List.mem_cons.mp hp with rfl | hp
    · exact ⟨hn, hL⟩
    · have hpq := R.frs p (List.mem_cons_of_mem _ hp)
      refine ⟨hpq.1.at' fun o e => (hs.2 _ fun z => ?_).trans e, hpq.2⟩
      exact hnd.1 (List.mem_map.mpr ⟨p, hp, z⟩)
  · obtain ⟨a, ha, hA, ht, hf, hlo⟩ := R.obj i o e
    refine ⟨a, ha, hA.at fun ob eb => (hs.2 a fun z => ?_).trans eb, ht, fun p hp => ?_, hlo⟩
    · exact hf _ (List.mem_cons_self ..) z.symm
    · rcases List.mem_cons.mp hp with rfl | hp
      · exact hf (L, m) (List.mem_cons_self ..)
      · exact hf p (List.mem_cons_of_mem _ hp)
theorem Rel.ns {L : Addr} {m : NsM} (R : Rel prog w cc σ t ((L, m) :: fs) ρ st h) : h.Ns L m := (R.frs _ (List.mem_cons_self ..)).1
theorem Rel.low (R : Rel prog w cc σ t fs ρ st h) {i : Nat} {o : MO} {a : Addr} (hi : st.H.get i = some o) (ha : ρ[i]? = some a) : (a == sysModules) = false := by
  obtain ⟨b, hb, _, _, _, lo⟩ := R.obj i o hi
  rw [ha] at hb; cases hb
  exact beq_eq_false_iff_ne.mpr (Nat.ne_of_gt lo)
theorem Rel.at (R : Rel prog w cc σ t fs ρ st h) {i : Nat} {o : MO} {a : Addr} (hi : st.H.get i = some o) (ha : ρ[i]? = some a) : AbsH prog w cc σ ρ h a o := by
  obtain ⟨b, hb, hA, _⟩ := R.obj i o hi
  rw [ha] at hb; cases hb; exact hA
end
end Mine

end
section
namespace Mine
open PySem PySem.W PyProof.Rows PySem.Calls

structure Cx where
  prog : Program
  w : World
  cc : Cls
  σ : List Int
  t : Heap
  mg : NsM
  mb : NsM
  K : Frag
abbrev Cx.M (X : Cx) : Model := model X.prog X.w
abbrev Cx.Rel (X : Cx) := Mine.Rel X.prog X.w X.cc X.σ X.t
abbrev Cx.AbsH (X : Cx) := Mine.AbsH X.prog X.w X.cc X.σ
structure Gd (X : Cx) : Prop where
  k : X.K.In X.t
  g : X.t.Ns mainGlobals X.mg
  b : X.t.Ns builtinsNs X.mb
  nolimit : X.t.NoLimit
  builtins : ∀ x : Str, x ≠ "__name__" → X.mb x = bootBuiltins x

structure Desc where
  names : List (Str × NameKind)
  ns : List Str
  cs : List Str
  d : Nat
  h : Bool := true
structure DOk (D : Desc) : Prop where
  nd : D.ns.Nodup
  loc : ∀ x ∈ D.ns, D.names.lookup x = some .local ∧ (x == ("__debug__" : Str)) = false
  cel : ∀ x ∈ D.cs, (D.names.lookup x = some .cell ∨ D.names.lookup x = some .free) ∧ (x == ("__debug__" : Str)) = false ∧ (x == ("__classdict__" : Str)) = false

structure Wd (X : Cx) (D : Desc) (A : Around) (env : Env) (fs : List (Addr × NsM)) : Prop where
  ok : DOk D
  kind : env.scope.kind = .function
  names : env.scope.names = D.names
  glob : env.globals = mainGlobals
  bltn : env.builtins = builtinsNs
  room : A.depth + D.d < recursionLimit
  unit : A.units + 10 * D.d + 200 < cLine
  hand : D.h = true → A.handled = none
  frm : ∃ e0 outer, A.frames = some (e0 :: outer) ∧ e0.frame = env.frame ∧ ∀ e ∈ e0 :: outer, e.scope.kind ≠ .module ∧ ∃ L, e.frame = some L ∧ (L = env.locals ∨ L ∈ fs.map (·.1))

structure Ok (X : Cx) (D : Desc) (env : Env) (fs : List (Addr × NsM)) (s₀ : Shared) (ρ : List Addr) (fr : Frm) (st : St) (s : Shared) : Prop where
  same : ∃ h tk, s = { s₀ with heap := h, toks := tk }
  loc : ∃ m, X.Rel ((env.locals, m) :: fs) ρ st s.heap ∧ ∀ (i : Nat) (v : MV), fr.loc[i]? = some (some v) → ∃ x u, D.ns[i]? = some x ∧ m x = some u ∧ AbsV X.σ ρ v u
  cel : ∀ (j i : Nat), fr.cel[j]? = some i → ∃ x a, D.cs[j]? = some x ∧ ρ[i]? = some a ∧ env.cells.lookup x = some a

noncomputable def SoundE (X : Cx) (D : Desc) (e : Expr) (me : ME) : Prop :=
  ∀ {A : Around} {env : Env} {fs : List (Addr × NsM)} {s₀ : Shared} {ρ : List Addr} {fr : Frm} {st : St} {s : Shared} {v : MV} {fr' : Frm} {st' : St} {Q : Value → Shared → Prop} {E : Value → Shared → Prop},
    Wd X D A env fs → Ok X D env fs s₀ ρ fr st s → me fr st = some (v, fr', st') →
    (∀ ρ' v' s', Ext ρ ρ' → Ok X D env fs s₀ ρ' fr' st' s' → AbsV X.σ ρ' v v' → Q v' s') → wpAny X.M A (eval e env) Q E s
noncomputable def SoundT (X : Cx) (D : Desc) (e : Expr) (mt : MT) : Prop :=
  ∀ {A : Around} {env : Env} {fs : List (Addr × NsM)} {s₀ : Shared} {ρ : List Addr} {fr : Frm} {st : St} {s : Shared} {b : Bool} {fr' : Frm} {st' : St} {Q : Bool → Shared → Prop} {E : Value → Shared → Prop},
    Wd X D A env fs → Ok X D env fs s₀ ρ fr st s → mt fr st = some (b, fr', st') →
    (∀ ρ' s', Ext ρ ρ' → Ok X D env fs s₀ ρ' fr' st' s' → Q b s') → wpAny X.M A (isTrue e env (eval e env)) Q E s
noncomputable def AbsF (X : Cx) (ρ : List Addr) : Fl → Flow → Prop
  | .next, f => f = .next
  | .brk, f => f = .brk
  | .cont, f => f = .cont
  | .ret v, f => ∃ u, f = .ret u ∧ AbsV X.σ ρ v u
noncomputable def SoundS (X : Cx) (D : Desc) (e : Stmt) (ms : MS) : Prop :=
  ∀ {A : Around} {env : Env} {fs : List (Addr × NsM)} {s₀ : Shared} {ρ : List Addr} {fr : Frm} {st : St} {s : Shared} {f : Fl} {fr' : Frm} {st' : St} {Q : Flow → Shared → Prop} {E : Value → Shared → Prop},
    Wd X D A env fs → Ok X D env fs s₀ ρ fr st s → ms fr st = some (f, fr', st') →
    (∀ ρ' g s', Ext ρ ρ' → Ok X D env fs s₀ ρ' fr' st' s' → AbsF X ρ' f g → Q g s') → wpAny X.M A (exec e env) Q E s
noncomputable def SoundB (X : Cx) (D : Desc) (e : List Stmt) (ms : MS) : Prop :=
  ∀ {A : Around} {env : Env} {fs : List (Addr × NsM)} {s₀ : Shared} {ρ : List Addr} {fr : Frm} {st : St} {s : Shared} {f : Fl} {fr' : Frm} {st' : St} {Q : Flow → Shared → Prop} {E : Value → Shared → Prop},
    Wd X D A env fs → Ok X D env fs s₀ ρ fr st s → ms fr st = some (f, fr', st') →
    (∀ ρ' g s', Ext ρ ρ' → Ok X D env fs s₀ ρ' fr' st' s' → AbsF X ρ' f g → Q g s') → wpAny X.M A (execs e env) Q E s

section
variable {X : Cx} {D : Desc} {env : Env} {fs : List (Addr × NsM)} {s₀ : Shared} {ρ : List Addr} {fr : Frm} {st : St} {s : Shared}
theorem Ok.re (O : Ok X D env fs s₀ ρ fr st s) {h' : Heap} {tk : Nat} {ρ' : List Addr} {st' : St} (x : Ext ρ ρ') (k : ∀ m, X.Rel ((env.locals, m) :: fs) ρ st s.heap → X.Rel ((env.locals, m) :: fs) ρ' st' h') :
    Ok X D env fs s₀ ρ' fr st' { s with heap := h', toks := tk } := by
  obtain ⟨⟨h, tk0, rfl⟩, ⟨m, R, L⟩, C⟩ := O
  refine ⟨⟨h', tk, rfl⟩, ⟨m, k m R, fun i v e => ?_⟩, fun j i e => ?_⟩
  · obtain ⟨y, u, h1, h2, h3⟩ := L i v e
    exact ⟨y, u, h1, h2, h3.mono x⟩
  · obtain ⟨y, a, h1, h2, h3⟩ := C j i e
    exact ⟨y, a, h1, x.get h2, h3⟩
theorem Ok.tok (O : Ok X D env fs s₀ ρ fr st s) {tk : Nat} : Ok X D env fs s₀ ρ fr st { s with toks := tk } := O.re (h' := s.heap) (Ext.refl ρ) fun _ R => R
theorem Ok.heap (O : Ok X D env fs s₀ ρ fr st s) {h' : Heap} {ρ' : List Addr} {st' : St} (x : Ext ρ ρ') (k : ∀ m, X.Rel ((env.locals, m) :: fs) ρ st s.heap → X.Rel ((env.locals, m) :: fs) ρ' st' h') :
    Ok X D env fs s₀ ρ' fr st' { s with heap := h' } := O.re (tk := s.toks) x k
theorem Ok.grown (O : Ok X D env fs s₀ ρ fr st s) {h' : Heap} {tk : Nat} (k : ∀ b o, s.heap.get? b = some o → h'.get? b = some o) : Ok X D env fs s₀ ρ fr st { s with heap := h', toks := tk } :=
  O.re (Ext.refl ρ) fun _ R => R.more k
theorem Ok.rel (O : Ok X D env fs s₀ ρ fr st s) : ∃ m, X.Rel ((env.locals, m) :: fs) ρ st s.heap := let ⟨m, R, _⟩ := O.loc; ⟨m, R⟩
theorem Ok.at (O : Ok X D env fs s₀ ρ fr st s) {i : Nat} {o : MO} {a : Addr} (hi : st.H.get i = some o) (ha : ρ[i]? = some a) : X.AbsH ρ s.heap a o := let ⟨_, R⟩ := O.rel; R.at hi ha
theorem Ok.top (O : Ok X D env fs s₀ ρ fr st s) : ∀ b o, X.t.get? b = some o → s.heap.get? b = some o := let ⟨_, R⟩ := O.rel; R.top
theorem Ok.put (O : Ok X D env fs s₀ ρ fr st s) {i : Nat} {o o' : MO} {a : Addr} {h' : Heap} {tk : Nat} (hi : st.H.get i = some o) (ha : ρ[i]? = some a)
    (k : ∀ b ob, b ≠ a → s.heap.get? b = some ob → h'.get? b = some ob) (hn : X.AbsH ρ h' a o') : Ok X D env fs s₀ ρ fr (st.put i o') { s with heap := h', toks := tk } :=
  O.re (Ext.refl ρ) fun _ R => R.put hi ha k hn
theorem Ok.drop (O : Ok X D env fs s₀ ρ fr st s) {i : Nat} {o : MO} {a : Addr} {h' : Heap} {tk : Nat} (hi : st.H.get i = some o) (ha : ρ[i]? = some a)
    (k : ∀ b ob, b ≠ a → s.heap.get? b = some ob → h'.get? b = some ob) : Ok X D env fs s₀ ρ fr (st.drop i) { s with heap := h', toks := tk } :=
  O.re (Ext.refl ρ) fun _ R => R.drop hi ha k
theorem Ok.ghost (O : Ok X D env fs s₀ ρ fr st s) (e : Nat) : Ok X D env fs s₀ (ρ ++ [e]) fr st.ghost s := O.re (h' := s.heap) (tk := s.toks) (Ext.snoc ρ e) fun _ R => R.ghost e
theorem Ok.n (O : Ok X D env fs s₀ ρ fr st s) : ρ.length = st.n := let ⟨_, R⟩ := O.rel; R.len
theorem Ok.new (O : Ok X D env fs s₀ ρ fr st s) {o : MO} {h' : Heap} {tk : Nat} (k : ∀ b ob, s.heap.get? b = some ob → h'.get? b = some ob)
    (hn : X.AbsH (ρ ++ [s.heap.objs.size]) h' s.heap.objs.size o) : Ok X D env fs s₀ (ρ ++ [s.heap.objs.size]) fr (st.add o) { s with heap := h', toks := tk } :=
  O.re (Ext.snoc _ _) fun _ R => R.add k hn
theorem Ok.newV (O : Ok X D env fs s₀ ρ fr st s) (a : Addr) : AbsV X.σ (ρ ++ [a]) (.ref st.n) (.ref a) := ⟨a, by rw [← O.n]; simp, rfl⟩

theorem Ok.ldLoc (O : Ok X D env fs s₀ ρ fr st s) {i : Nat} {v : MV} (e : fr.loc[i]? = some (some v)) : ∃ x u m, D.ns[i]? = some x ∧ s.heap.Ns env.locals m ∧ m x = some u ∧ AbsV X.σ ρ v u := by
  obtain ⟨m, R, L⟩ := O.loc
  obtain ⟨x, u, h1, h2, h3⟩ := L i v e
  exact ⟨x, u, m, h1, R.ns, h2, h3⟩
end

section
variable {X : Cx} {D : Desc}
theorem sound_int (i : Int) (k : Nat) (pos : Pos) : SoundE X D (.Constant (.int i) k pos) (eK (.int (.k i))) := by
  intro A env fs s₀ ρ fr st s v fr' st' Q E W O e h
  cases e
  exact wpAny_Constant_int (h ρ _ _ (Ext.refl ρ) O.tok ⟨_, rfl⟩)
theorem sound_none (k : Nat) (pos : Pos) : SoundE X D (.Constant .none k pos) (eK .none) := by
  intro A env fs s₀ ρ fr st s v fr' st' Q E W O e h
  cases e
  exact wpAny_Constant_none (h ρ _ _ (Ext.refl ρ) O rfl)
theorem sound_bool (b : Bool) (k : Nat) (pos : Pos) : SoundE X D (.Constant (.bool b) k pos) (eK (.bool b)) := by
  intro A env fs s₀ ρ fr st s v fr' st' Q E W O e h
  cases e
  exact wpAny_Constant_bool (h ρ _ _ (Ext.refl ρ) O rfl)

theorem mem_of_get {α : Type} {l : List α} {i : Nat} {x : α} (h : l[i]? = some x) : x ∈ l := by
  obtain ⟨hi, e⟩ := List.getElem?_eq_some_iff.mp h
  exact e ▸ List.getElem_mem hi
theorem sound_loc {x : Str} (i : Nat) (pos : Pos) (hx : D.ns[i]? = some x) : SoundE X D (.Name x pos) (eLoc i) := by
  intro A env fs s₀ ρ fr st s v fr' st' Q E W O e h
  unfold eLoc at e
  split at e
  · rename_i v' e'
    cases e
    obtain ⟨y, u, m, h1, h2, h3, h4⟩ := O.ldLoc e'
    rw [hx] at h1; cases h1
    have hl := W.ok.loc x (mem_of_get hx)
    exact wpAny_Name (wpAny_loadName_local W.kind (by show env.scope.names.lookup x = _; rw [W.names]; exact hl.1) h2 h3 (h ρ _ _ (Ext.refl ρ) O h4)) hl.2
  · cases e
theorem sound_cel {x : Str} (j : Nat) (pos : Pos) (hx : D.cs[j]? = some x) : SoundE X D (.Name x pos) (eCel j) := by
  intro A env fs s₀ ρ fr st s v fr' st' Q E W O e h
  unfold eCel at e
  split at e
  · rename_i i ei
    split at e
    · rename_i v' ev
      cases e
      obtain ⟨y, a, h1, h2, h3⟩ := O.cel j i ei
      rw [hx] at h1; cases h1
      obtain ⟨o, u, g1, g2, u', rfl, g3⟩ := O.at ev h2
      obtain ⟨hl, hd, hc⟩ := W.ok.cel x (mem_of_get hx)
      have hk : env.kindOf x = D.names.lookup x := by show env.scope.names.lookup x = _; rw [W.names]
      rcases hl with hl | hl
      · exact wpAny_Name (wpAny_loadName_cell W.kind (hk.trans hl) h3 ⟨o, g1, g2⟩ (h ρ _ _ (Ext.refl ρ) O g3)) hd
      · exact wpAny_Name (wpAny_loadName_free W.kind (hk.trans hl) h3 ⟨o, g1, g2⟩ (h ρ _ _ (Ext.refl ρ) O g3) hc) hd
    · cases e
  · cases e
/-- a global of the text -/
theorem sound_global (G : Gd X) {x : Str} (pos : Pos) {v : Value} {m : MV} (hk : nsIn X.K mainGlobals x = some (some v)) (hm : ∀ ρ, AbsV X.σ ρ m v) (hx : D.names.lookup x = some .globalImplicit)
    (hd : (x == ("__debug__" : Str)) = false := by decide) : SoundE X D (.Name x pos) (eK m) := by
  intro A env fs s₀ ρ fr st s v fr' st' Q E W O e h
  cases e
  refine Name_function_global W.kind (by show env.scope.names.lookup x = _; rw [W.names]; exact hx) (loadGlobal_global (by rw [W.glob]; exact G.g.keeps O.top) (mg_of G.k G.g hk) (h ρ _ _ (Ext.refl ρ) O (hm ρ))) hd
/-- a built-in name -/
theorem sound_builtin (G : Gd X) {x : Str} (pos : Pos) {v : Value} (hk : nsIn X.K mainGlobals x = some none) (hv : bootBuiltins x = some v) (hn : x ≠ "__name__") (hx : D.names.lookup x = some .globalImplicit)
    (hd : (x == ("__debug__" : Str)) = false := by decide) : SoundE X D (.Name x pos) (eK (.val v)) := by
  intro A env fs s₀ ρ fr st s v fr' st' Q E W O e h
  cases e
  exact Name_function_global W.kind (by show env.scope.names.lookup x = _; rw [W.names]; exact hx) (loadGlobal_builtin (by rw [W.glob]; exact G.g.keeps O.top) (mg_none_of G.k G.g hk) (by rw [W.bltn]; exact G.b.keeps O.top) ((G.builtins x hn).trans hv) (h ρ _ _ (Ext.refl ρ) O rfl)) hd
end
end Mine

end
section
namespace Mine
open PySem PySem.W PyProof.Rows PySem.Calls

-- ints
theorem lin_zeros : ∀ (cs σ : List Int), zeros cs = true → lin cs σ = 0
  | [], σ, _ => by cases σ <;> rfl
  | c :: cs, [], _ => rfl
  | c :: cs, x :: xs, h => by
    unfold zeros at h
    split at h
    · rename_i hc
      rw [of_decide_eq_true hc]
      show (0 : Int) * x + lin cs xs = 0
      rw [lin_zeros cs xs h]; omega
    · cases h
theorem lin_add : ∀ (as bs σ : List Int), lin (addC as bs) σ = lin as σ + lin bs σ
  | [], [], σ => by cases σ <;> rfl
  | [], b :: bs, [] => rfl
  | [], b :: bs, x :: xs => by show lin (b :: bs) (x :: xs) = 0 + _; omega
  | a :: as, [], [] => rfl
  | a :: as, [], x :: xs => by show lin (a :: as) (x :: xs) = _ + 0; omega
  | a :: as, b :: bs, [] => rfl
  | a :: as, b :: bs, x :: xs => by
    show (a + b) * x + lin (addC as bs) xs = (a * x + lin as xs) + (b * x + lin bs xs)
    rw [lin_add as bs xs, Int.add_mul]; omega
theorem lin_scale (a : Int) : ∀ (cs σ : List Int), lin (scale a cs) σ = a * lin cs σ
  | [], σ => by cases σ <;> (show (0 : Int) = a * 0; omega)
  | c :: cs, [] => by show (0 : Int) = a * 0; omega
  | c :: cs, x :: xs => by
    show a * c * x + lin (scale a cs) xs = a * (c * x + lin cs xs)
    rw [lin_scale a cs xs, Int.mul_add, Int.mul_assoc]
theorem lin_eqC : ∀ (as bs σ : List Int), eqC as bs = true → lin as σ = lin bs σ
  | [], bs, σ, h => by
    have h' : zeros bs = true := by unfold eqC at h; exact h
    rw [lin_zeros bs σ h']; cases σ <;> rfl
  | a :: as, [], σ, h => by
    have h' : zeros (a :: as) = true := by unfold eqC at h; exact h
    rw [lin_zeros _ σ h']; cases σ <;> rfl
  | a :: as, b :: bs, [], _ => rfl
  | a :: as, b :: bs, x :: xs, h => by
    unfold eqC at h
    split at h
    · rename_i hc
      show a * x + lin as xs = b * x + lin bs xs
      rw [of_decide_eq_true hc, lin_eqC as bs xs h]
    · cases h
theorem lin_unit : ∀ (cs σ : List Int) (j : Nat), unitAt cs = some j → lin cs σ = σ.getD j 0
  | [], _, _, h => by cases h
  | c :: cs, [], j, _ => by simp [lin]
  | c :: cs, x :: xs, j, h => by
    unfold unitAt at h
    split at h
    · rename_i hc
      split at h
      · rename_i i hi
        cases h
        show c * x + lin cs xs = _
        rw [of_decide_eq_true hc, lin_unit cs xs i hi]
        simp
      · cases h
    · split at h
      · rename_i h1
        split at h
        · rename_i hz
          cases h
          show c * x + lin cs xs = _
          rw [of_decide_eq_true h1, lin_zeros cs xs hz]
          simp
        · cases h
      · cases h
theorem den_unit (σ : List Int) {cs : List Int} {j : Nat} (hu : unitAt cs = some j) : Z.den σ (.l 0 cs) = σ.getD j 0 := by
  simp only [Z.den]; rw [lin_unit _ σ _ hu]; omega
theorem Z.add_den (σ : List Int) {a b z : Z} (h : a.add b = some z) : z.den σ = a.den σ + b.den σ := by
  cases a <;> cases b <;> simp only [Z.add] at h <;> cases h <;> simp only [Z.den] <;> first | omega | (rw [lin_add]; omega)
theorem Z.mul_den (σ : List Int) {a b z : Z} (h : a.mul b = some z) : z.den σ = a.den σ * b.den σ ∧ ∃ c, a.den σ = c ∧ -1000000 < c ∧ c < 1000000 := by
  cases a <;> cases b <;> simp only [Z.mul] at h <;> first | (cases h; done) | skip
  · split at h
    · rename_i ht; cases h
      exact ⟨rfl, _, rfl, of_decide_eq_true ht⟩
    · cases h
  · split at h
    · rename_i ht; cases h
      refine ⟨?_, _, rfl, of_decide_eq_true ht⟩
      simp only [Z.den]; rw [lin_scale, Int.mul_add]
    · cases h
theorem Z.eqv_den (σ : List Int) {a b : Z} {c : Bool} (h : a.eqv b = some c) : decide (a.den σ = b.den σ) = c := by
  cases a <;> cases b <;> simp only [Z.eqv] at h <;> first | (cases h; done) | skip
  · cases h; rfl
  · split at h
    · rename_i hc
      split at h
      · rename_i hz; cases h
        refine decide_eq_true ?_
        simp only [Z.den]; rw [lin_zeros _ σ hz, of_decide_eq_true hc]; simp
      · cases h
    · cases h
  · split at h
    · rename_i hc
      split at h
      · rename_i hz; cases h
        refine decide_eq_true ?_
        simp only [Z.den]; rw [lin_zeros _ σ hz, of_decide_eq_true hc]; simp
      · cases h
    · cases h
  · split at h
    · rename_i hc
      split at h
      · rename_i hz; cases h
        refine decide_eq_true ?_
        simp only [Z.den]; rw [lin_eqC _ _ σ hz, of_decide_eq_true hc]
      · cases h
    · cases h

noncomputable def OrOk (σ : List Int) (ob : Nat → Nat → Option Bool) : Prop := ∀ j b v, ob j b = some v → Int.fmod (Int.fdiv (σ.getD j 0) (2 ^ b)) 2 = if v then 1 else 0

section
variable {X : Cx} {D : Desc}
theorem sound_arith {ob : Nat → Nat → Option Bool} (HO : OrOk X.σ ob) {A : Around} {s : Shared} {Q : Value → Shared → Prop} {E : Value → Shared → Prop} {op : Operator} {a b z : Z} {ta tb : Tok} (e : arith ob op a b = some z)
    (h : Q (.int (z.den X.σ) s.toks) { s with toks := s.toks + 1 }) : wpAny X.M A (binaryOp op (.int (a.den X.σ) ta) (.int (b.den X.σ) tb)) Q E s := by
  unfold arith at e
  split at e
  · rw [Z.add_den X.σ e] at h; exact PyProof.Rows.add_int h
  · obtain ⟨h1, c, h2, h3, h4⟩ := Z.mul_den X.σ e
    rw [h1] at h
    exact PyProof.Rows.mul_int h (IntMulOk.of_left (intBits_le_64 (by omega) (by omega)))
  · cases e; exact PyProof.Rows.sub_int h
  · split at e
    · rename_i hb ht
      cases e
      have ht' := of_decide_eq_true ht
      exact PyProof.Rows.floordiv_int (of_decide_eq_false hb) h (Or.inl (PyProof.noPylong_small (by simp only [Z.den]; omega)))
    · cases e
  · split at e
    · rename_i hc hu
      have h1 := of_decide_eq_true hc
      subst h1
      rw [den_unit X.σ hu]
      split at e
      · rename_i hb
        cases e
        have h2 := of_decide_eq_true hb
        subst h2
        exact PyProof.Rows.floordiv_int (b := 1) (by decide) h (Or.inl (PyProof.noPylong_small (by decide)))
      · split at e
        · rename_i hb
          cases e
          have h2 := of_decide_eq_true hb
          subst h2
          exact PyProof.Rows.floordiv_int (b := 2) (by decide) h (Or.inl (PyProof.noPylong_small (by decide)))
        · cases e
    · cases e
  · split at e
    · cases e
    · rename_i hb
      cases e
      exact PyProof.Rows.mod_int' (of_decide_eq_false hb) h
  · split at e
    · rename_i hc ho
      cases e
      have h1 := of_decide_eq_true hc
      subst h1
      have h2 := HO _ _ _ ho
      refine PyProof.Rows.mod_int' (b := 2) (by decide) ?_
      have h3 : (Z.den X.σ (.d _ _)).fmod 2 = 1 := h2
      rw [h3]; exact h
    · rename_i hc ho
      cases e
      have h1 := of_decide_eq_true hc
      subst h1
      have h2 := HO _ _ _ ho
      refine PyProof.Rows.mod_int' (b := 2) (by decide) ?_
      have h3 : (Z.den X.σ (.d _ _)).fmod 2 = 0 := h2
      rw [h3]; exact h
    · cases e
  · split at e
    · rename_i hb ht
      cases e
      have hb' := of_decide_eq_true hb
      have ht' := of_decide_eq_true ht
      exact PyProof.Rows.pow_int_small hb'.1 (by simp only [Z.den]; omega) (by simp only [Z.den]; omega) h
    · cases e
  · split at e
    · rename_i hb ht
      cases e
      have hb' := of_decide_eq_true hb
      have ht' := of_decide_eq_true ht
      exact PyProof.Rows.lshift_int_small hb'.1 (by simp only [Z.den]; omega) (by simp only [Z.den]; omega) h
    · cases e
  · split at e
    · rename_i ha hb
      cases e
      refine PyProof.Rows.and_int ?_
      simp only [Z.den] at h ⊢
      rw [bitAnd_pp (of_decide_eq_true ha) (of_decide_eq_true hb)]; exact h
    · cases e
  · split at e
    · rename_i ha hb
      cases e
      have ha' := of_decide_eq_true ha
      have hb' := of_decide_eq_true hb
      refine PyProof.Rows.or_int ?_
      simp only [Z.den] at h ⊢
      rename_i x y _ _
      have h1 := nat_or_add_and x.toNat y.toNat
      rw [bitOr_and, bitAnd_pp ha' hb']
      have h2 : x + y - ((x.toNat &&& y.toNat : Nat) : Int) = ((x.toNat ||| y.toNat : Nat) : Int) := by omega
      rw [h2]; exact h
    · cases e
  · cases e

theorem short_le {xs : List MV} (h : short xs = true) : xs.length ≤ 10000 := Nat.le_of_ble_eq_true h
theorem line_big : 20001 ≤ sizeLine := by rw [sizeLine_eq]; decide

theorem sound_binM {ob : Nat → Nat → Option Bool} (HO : OrOk X.σ ob) {A : Around} {env : Env} {fs : List (Addr × NsM)} {s₀ : Shared} {ρ : List Addr} {fr : Frm} {st st' : St} {s : Shared} {Q : Value → Shared → Prop} {E : Value → Shared → Prop} {op : Operator} {x y v : MV} {x' y' : Value}
    (O : Ok X D env fs s₀ ρ fr st s) (hx : AbsV X.σ ρ x x') (hy : AbsV X.σ ρ y y') (e : bin ob op x y st = some (v, st'))
    (h : ∀ ρ' v' s', Ext ρ ρ' → Ok X D env fs s₀ ρ' fr st' s' → AbsV X.σ ρ' v v' → Q v' s') : wpAny X.M A (binaryOp op x' y') Q E s := by
  unfold bin at e
  split at e
  · split at e
    · rename_i hz
      cases e
      obtain ⟨ta, rfl⟩ := hx
      obtain ⟨tb, rfl⟩ := hy
      exact sound_arith HO hz (h ρ _ _ (Ext.refl ρ) O.tok ⟨_, rfl⟩)
    · cases e
  · split at e
    · rename_i hi hj
      split at e
      · rename_i sx sy
        cases e
        obtain ⟨a, ha, rfl⟩ := hx
        obtain ⟨b, hb, rfl⟩ := hy
        obtain ⟨va, ⟨na, pa⟩, qa⟩ := O.at hi ha
        obtain ⟨vb, ⟨nb, pb⟩, qb⟩ := O.at hj hb
        have la : _ = va.size := qa.length.trans Array.length_toList
        have lb : _ = vb.size := qb.length.trans Array.length_toList
        have := short_le sx
        have := short_le sy
        have := line_big
        refine P.add_list pa pb (h _ _ _ (Ext.snoc ρ _) (O.new (tk := s.toks) (fun b ob eb => Heap.get?_push_of_some _ eb) ⟨_, ⟨0, Heap.get?_push_size _ rfl⟩, ?_⟩) (O.newV _)) (by omega)
        rw [Array.toList_append]
        exact (qa.append qb).mono (Ext.snoc ρ _)
      · cases e
    · cases e
  · cases e
theorem sound_bin {ob : Nat → Nat → Option Bool} (HO : OrOk X.σ ob) {l r : Expr} {op : Operator} {a b : ME} (pos : Pos) (ha : SoundE X D l a) (hb : SoundE X D r b) : SoundE X D (.BinOp l op r pos) (eBin ob op a b) := by
  intro A env fs s₀ ρ fr st s v fr' st' Q E W O e h
  unfold eBin at e
  split at e
  · cases e
  · rename_i x f1 s1 e1
    split at e
    · cases e
    · rename_i y f2 s2 e2
      split at e
      · cases e
      · rename_i z s3 e3
        cases e
        exact wpAny_BinOp (ha W O e1 fun ρ1 x' t1 x1 O1 a1 => hb W O1 e2 fun ρ2 y' t2 x2 O2 a2 =>
          sound_binM HO O2 (a1.mono x2) a2 e3 fun ρ3 v' t3 x3 O3 a3 => h ρ3 v' t3 ((x1.trans x2).trans x3) O3 a3)
theorem sound_neg {l : Expr} {a : ME} (pos : Pos) (ha : SoundE X D l a) : SoundE X D (.UnaryOp .USub l pos) (eNeg a) := by
  intro A env fs s₀ ρ fr st s v fr' st' Q E W O e h
  unfold eNeg at e
  split at e
  · cases e
  · rename_i x f1 s1 e1
    split at e
    · cases e
    · rename_i z e3
      cases e
      refine wpAny_UnaryOp (ha W O e1 fun ρ1 x' t1 x1 O1 a1 => ?_)
      unfold negV at e3
      split at e3
      · cases e3
        obtain ⟨ta, rfl⟩ := a1
        exact PyProof.Rows.neg_int (h ρ1 _ _ x1 O1.tok ⟨_, rfl⟩)
      · cases e3

-- truth, tests
theorem sound_truth {A : Around} {env : Env} {fs : List (Addr × NsM)} {s₀ : Shared} {ρ : List Addr} {fr : Frm} {st : St} {s : Shared} {Q : Bool → Shared → Prop} {E : Value → Shared → Prop} {x : MV} {x' : Value} {b : Bool}
    (O : Ok X D env fs s₀ ρ fr st s) (hx : AbsV X.σ ρ x x') (e : truth x st = some b) (h : ∀ s', Ok X D env fs s₀ ρ fr st s' → Q b s') : wpAny X.M A (truthy x') Q E s := by
  unfold truth at e
  split at e
  · cases e; cases hx; exact wpAny_pure (h _ O)
  · cases e; cases hx; exact wpAny_truthy_bool (h _ O)
  · rename_i a
    obtain ⟨ta, rfl⟩ := hx
    refine PyProof.Rows.truthy_int ?_
    have hb : (Z.den X.σ (.k a) != 0) = b := by
      simp only [Option.some.injEq] at e
      subst e
      show (a != 0) = _
      split
      · rename_i q; rw [of_decide_eq_true q]; rfl
      · rename_i q; exact bne_iff_ne.mpr (of_decide_eq_false q)
    rw [hb]; exact h _ O
  · obtain ⟨a, ha, rfl⟩ := hx
    split at e
    · rename_i xs hi
      split at e
      · rename_i hsx
        obtain ⟨va, ⟨na, pa⟩, qa⟩ := O.at hi ha
        have la : _ = va.size := qa.length.trans Array.length_toList
        have := short_le hsx
        refine wpAny_truthy_list ⟨_, pa, rfl, _, rfl⟩ (by omega) ?_
        have hb : (!va.isEmpty) = b := by
          simp only [Option.some.injEq] at e
          subst e
          cases xs with
          | nil => have h0 : va.size = 0 := by rw [← la]; rfl
                   have : va.isEmpty = true := by unfold Array.isEmpty; rw [h0]; rfl
                   rw [this]; rfl
          | cons y ys => have h0 : va.size ≠ 0 := by rw [← la]; simp
                         have : va.isEmpty = false := by unfold Array.isEmpty; exact decide_eq_false h0
                         rw [this]; rfl
        rw [hb]; exact h _ O.tok
      · cases e
    · cases e
  · cases e
theorem sound_tVal {l : Expr} {a : ME} (ha : SoundE X D l a) (he : ∀ env, isTrue l env (eval l env) = (do let v ← eval l env; standAt l.pos; holding [v] (truthy v)) := by intro _; rfl) : SoundT X D l (tVal a) := by
  intro A env fs s₀ ρ fr st s v fr' st' Q E W O e h
  unfold tVal at e
  split at e
  · cases e
  · rename_i x f1 s1 e1
    split at e
    · cases e
    · rename_i b e2
      cases e
      exact wpAny_isTrue_value (ha W O e1 fun ρ1 x' t1 x1 O1 a1 => sound_truth O1 a1 e2 fun t2 O2 => h ρ1 t2 x1 O2) (he env)
theorem sound_tAnd {l r : Expr} {a b : MT} (pos : Pos) (ha : SoundT X D l a) (hb : SoundT X D r b) : SoundT X D (.BoolOp .And [l, r] pos) (tAnd a b) := by
  intro A env fs s₀ ρ fr st s v fr' st' Q E W O e h
  unfold tAnd at e
  refine wpAny_isTrue_BoolOp ?_
  refine wpAny_allTrue_And_cons ?_
  split at e
  · cases e
  · rename_i f1 s1 e1
    cases e
    exact ha W O e1 fun ρ1 t1 x1 O1 => h ρ1 t1 x1 O1
  · rename_i f1 s1 e1
    refine ha W O e1 fun ρ1 t1 x1 O1 => ?_
    refine wpAny_allTrue_And_cons (hb W O1 e fun ρ2 t2 x2 O2 => ?_)
    cases v with
    | true => exact wpAny_allTrue_And_nil (h ρ2 t2 (x1.trans x2) O2)
    | false => exact h ρ2 t2 (x1.trans x2) O2
theorem sound_if {t l r : Expr} {c : MT} {a b : ME} (pos : Pos) (hc : SoundT X D t c) (ha : SoundE X D l a) (hb : SoundE X D r b) : SoundE X D (.IfExp t l r pos) (eIf c a b) := by
  intro A env fs s₀ ρ fr st s v fr' st' Q E W O e h
  unfold eIf at e
  refine wpAny_IfExp ?_
  split at e
  · cases e
  · rename_i f1 s1 e1
    exact hc W O e1 fun ρ1 t1 x1 O1 => ha W O1 e fun ρ2 v' t2 x2 O2 a2 => h ρ2 v' t2 (x1.trans x2) O2 a2
  · rename_i f1 s1 e1
    exact hc W O e1 fun ρ1 t1 x1 O1 => hb W O1 e fun ρ2 v' t2 x2 O2 a2 => h ρ2 v' t2 (x1.trans x2) O2 a2

-- displays
/-- a list of plain items -/
noncomputable def SoundL (X : Cx) (D : Desc) : List Expr → List ME → Prop
  | [], [] => True
  | l :: ls, a :: as => SoundE X D l a ∧ (∀ env rest, starEach (l :: rest) env = (false, eval l env) :: starEach rest env) ∧ SoundL X D ls as
  | _, _ => False
theorem sound_all (pos : Pos) : ∀ {ls : List Expr} {as : List ME}, SoundL X D ls as → ∀ {A : Around} {env : Env} {fs : List (Addr × NsM)} {s₀ : Shared} {ρ : List Addr} {fr : Frm} {st : St} {s : Shared} {xs : List MV} {fr' : Frm} {st' : St} {Q : List Value → Shared → Prop} {E : Value → Shared → Prop},
    Wd X D A env fs → Ok X D env fs s₀ ρ fr st s → eAll as fr st = some (xs, fr', st') →
    (∀ ρ' vs s', Ext ρ ρ' → Ok X D env fs s₀ ρ' fr' st' s' → AbsVs X.σ ρ' xs vs → Q vs s') → wpAny X.M A (spliced (backTo pos (starEach ls env))) Q E s
  | [], [], _, A, env, fs, s₀, ρ, fr, st, s, xs, fr', st', Q, E, W, O, e, h => by
    cases e
    exact wpAny_items_nil (h ρ [] s (Ext.refl ρ) O trivial)
  | l :: ls, a :: as, ⟨ha, hstar, hr⟩, A, env, fs, s₀, ρ, fr, st, s, xs, fr', st', Q, E, W, O, e, h => by
    unfold eAll at e
    split at e
    · cases e
    · rename_i x f1 s1 e1
      split at e
      · cases e
      · rename_i ys f2 s2 e2
        cases e
        exact wpAny_items_cons (ha W O e1 fun ρ1 x' t1 x1 O1 a1 => sound_all pos hr W O1 e2 fun ρ2 vs t2 x2 O2 a2 => h ρ2 (x' :: vs) t2 (x1.trans x2) O2 ⟨a1.mono x2, a2⟩) (hstar env ls)
  | [], _ :: _, h, _, _, _, _, _, _, _, _, _, _, _, _, _, _, _, _, _ => h.elim
  | _ :: _, [], h, _, _, _, _, _, _, _, _, _, _, _, _, _, _, _, _, _ => h.elim
theorem eAll_length : ∀ {as : List ME} {fr : Frm} {st : St} {xs : List MV} {fr' : Frm} {st' : St}, eAll as fr st = some (xs, fr', st') → xs.length = as.length
  | [], _, _, _, _, _, e => by cases e; rfl
  | a :: as, fr, st, xs, fr', st', e => by
    unfold eAll at e
    split at e
    · cases e
    · split at e
      · cases e
      · rename_i e2
        cases e
        rw [List.length_cons, List.length_cons, eAll_length e2]
theorem sound_list {ls : List Expr} {as : List ME} (pos : Pos) (hl : SoundL X D ls as) (hn : as.length ≤ 10000 := by decide) : SoundE X D (.List ls pos) (eList as) := by
  intro A env fs s₀ ρ fr st s v fr' st' Q E W O e h
  unfold eList at e
  split at e
  · cases e
  · rename_i xs f1 s1 e1
    cases e
    refine List_ (sound_all pos hl W O e1 fun ρ1 vs t1 x1 O1 a1 => ?_)
    have hlen := eAll_length e1
    have hlen2 := a1.length
    have := line_big
    exact wpAny_newObj_type (h _ _ _ (x1.trans (Ext.snoc ρ1 _)) (O1.new (tk := t1.toks) (fun b ob eb => Heap.get?_push_of_some _ eb) ⟨vs.toArray, ⟨0, Heap.get?_push_size _ rfl⟩, a1.mono (Ext.snoc ρ1 _)⟩) (O1.newV _)) (by show vs.toArray.size ≤ sizeLine; rw [List.size_toArray]; omega)
theorem sound_tup {ls : List Expr} {as : List ME} (k : Nat) (pos : Pos) (hl : SoundL X D ls as) (hn : as.length ≤ 10000 := by decide) : SoundE X D (.Tuple ls k pos) (eTup as) := by
  intro A env fs s₀ ρ fr st s v fr' st' Q E W O e h
  unfold eTup at e
  split at e
  · cases e
  · rename_i xs f1 s1 e1
    cases e
    refine Tuple_ (sound_all pos hl W O e1 fun ρ1 vs t1 x1 O1 a1 => ?_)
    have hlen := eAll_length e1
    have hlen2 := a1.length
    have := line_big
    exact wpAny_newObj_type (h _ _ _ (x1.trans (Ext.snoc ρ1 _)) (O1.new (tk := t1.toks) (fun b ob eb => Heap.get?_push_of_some _ eb) ⟨vs.toArray, ⟨0, Heap.get?_push_size _ rfl⟩, a1.mono (Ext.snoc ρ1 _)⟩) (O1.newV _)) (by show vs.toArray.size ≤ sizeLine; rw [List.size_toArray]; omega)

-- comparisons
theorem ints_are {σ : List Int} {ρ : List Addr} : ∀ {xs : List MV} {vs : List Value} {ns : List Int}, intsOf xs = some ns → AbsVs σ ρ xs vs → IntsAre vs ns
  | [], [], _, e, _ => by cases e; exact .nil
  | x :: xs, v :: vs, ns, e, ⟨a, b⟩ => by
    unfold intsOf at e
    split at e
    · cases ‹_ :: _ = []›
    · rename_i c r heq
      cases heq
      split at e
      · rename_i l hl
        cases e
        obtain ⟨t, rfl⟩ := a
        exact .cons _ t (ints_are hl b)
      · cases e
    · cases e
  | [], _ :: _, _, _, h => h.elim
  | _ :: _, [], _, _, h => h.elim
theorem hasInt_any (a : Int) : ∀ l : List Int, l.any (· == a) = hasInt a l
  | [] => rfl
  | b :: r => by
    rw [List.any_cons, hasInt_any a r]
    show _ = (match decide (b = a) with | true => true | false => hasInt a r)
    by_cases h : b = a
    · rw [decide_eq_true h, h]; simp
    · rw [decide_eq_false h, beq_eq_false_iff_ne.mpr h]; rfl
theorem valueAt_abs {σ : List Int} {ρ : List Addr} (a : Int) : ∀ {es : List (Int × MV)} {kvs : List (Int × Value)}, AbsKv σ ρ es kvs →
    (match findKey a es with | some x => ∃ v, valueAt kvs a = some v ∧ AbsV σ ρ x v | none => valueAt kvs a = none)
  | [], [], _ => rfl
  | (b, x) :: es, (c, v) :: kvs, ⟨h1, h2, h3⟩ => by
    subst h1
    have ih := valueAt_abs a h3
    unfold findKey
    by_cases q : b = a
    · simp only [decide_eq_true q]
      refine ⟨v, ?_, h2⟩
      unfold valueAt
      rw [List.find?_cons_of_pos (by simpa using q)]; rfl
    · simp only [decide_eq_false q]
      have : valueAt ((b, v) :: kvs) a = valueAt kvs a := by
        unfold valueAt
        rw [List.find?_cons_of_neg (by simpa using q)]
      rw [this]; exact ih
  | [], _ :: _, h => h.elim
  | (_, _) :: _, [], h => h.elim
theorem hasKey_find (a : Int) : ∀ es : List (Int × MV), hasKey a es = (findKey a es).isSome
  | [] => rfl
  | (b, x) :: es => by
    unfold hasKey findKey
    split
    · rfl
    · exact hasKey_find a es

mutual
noncomputable def ZD.data (σ : List Int) : ZD → PyData
  | .int z => .int (z.den σ)
  | .list xs => .list (ZD.datas σ xs)
noncomputable def ZD.datas (σ : List Int) : List ZD → List PyData
  | [] => []
  | x :: xs => ZD.data σ x :: ZD.datas σ xs
end
mutual
theorem eqZD_sound (σ : List Int) : ∀ (a b : ZD) (c : Bool), eqZD a b = some c → PyData.eqv (a.data σ) (b.data σ) = c
  | .int x, .int y, c, e => by
    have h := Z.eqv_den σ (show x.eqv y = some c by unfold eqZD at e; exact e)
    simp only [ZD.data, PyData.eqv]
    rw [← h]
    by_cases q : x.den σ = y.den σ
    · rw [decide_eq_true q, q]; simp
    · rw [decide_eq_false q]; exact beq_eq_false_iff_ne.mpr q
  | .list xs, .list ys, c, e => by
    unfold eqZD at e
    simp only [ZD.data, PyData.eqv]
    exact eqZDs_sound σ xs ys c e
  | .int _, .list _, _, e => by unfold eqZD at e; cases e
  | .list _, .int _, _, e => by unfold eqZD at e; cases e
theorem eqZDs_sound (σ : List Int) : ∀ (a b : List ZD) (c : Bool), eqZDs a b = some c → PyData.eqvAll (ZD.datas σ a) (ZD.datas σ b) = c
  | [], [], c, e => by unfold eqZDs at e; cases e; rfl
  | [], _ :: _, c, e => by unfold eqZDs at e; cases e; rfl
  | _ :: _, [], c, e => by unfold eqZDs at e; cases e; rfl
  | x :: xs, y :: ys, c, e => by
    unfold eqZDs at e
    simp only [ZD.datas, PyData.eqvAll]
    split at e
    · rename_i h1
      rw [eqZD_sound σ x y true h1, eqZDs_sound σ xs ys c e]; rfl
    · rename_i h1
      cases e
      rw [eqZD_sound σ x y false h1]; rfl
    · cases e
end
mutual
theorem datV_reads {fs : List (Addr × NsM)} {ρ : List Addr} {st : St} {h : Heap} (R : X.Rel fs ρ st h) : ∀ (f : Nat) (x : MV) (d : ZD) (v : Value), datV st.H f x = some d → AbsV X.σ ρ x v → ∃ as, Reads h v (d.data X.σ) as ∧ (d.data X.σ).canLay0 = true ∧ (d.data X.σ).depth ≤ f
  | f, .int z, d, v, e, a => by
    unfold datV at e
    cases e
    obtain ⟨t, rfl⟩ := a
    exact ⟨[], Reads.int _ _, rfl, Nat.zero_le _⟩
  | f + 1, .ref i, d, v, e, a => by
    unfold datV at e
    split at e
    · rename_i xs hi
      split at e
      · rename_i ds hd
        cases e
        obtain ⟨b, hb, rfl⟩ := a
        obtain ⟨va, ⟨na, pa⟩, qa⟩ := R.at hi hb
        obtain ⟨as, r1, r2, r3⟩ := datL_reads R f xs ds va.toList hd qa
        exact ⟨_, Reads.list pa rfl rfl r1, r2, Nat.succ_le_succ r3⟩
      · cases e
    · cases e
  | 0, .ref i, d, v, e, a => by unfold datV at e; cases e
  | 0, .none, d, v, e, a => by unfold datV at e; cases e
  | 0, .bool _, d, v, e, a => by unfold datV at e; cases e
  | 0, .val _, d, v, e, a => by unfold datV at e; cases e
  | f + 1, .none, d, v, e, a => by unfold datV at e; cases e
  | f + 1, .bool _, d, v, e, a => by unfold datV at e; cases e
  | f + 1, .val _, d, v, e, a => by unfold datV at e; cases e
theorem datL_reads {fs : List (Addr × NsM)} {ρ : List Addr} {st : St} {h : Heap} (R : X.Rel fs ρ st h) : ∀ (f : Nat) (x : List MV) (d : List ZD) (v : List Value), datL st.H f x = some d → AbsVs X.σ ρ x v → ∃ as, ReadsAll h v (ZD.datas X.σ d) as ∧ PyData.canLayAll0 (ZD.datas X.σ d) = true ∧ PyData.depthAll (ZD.datas X.σ d) ≤ f
  | f, [], d, [], e, a => by
    unfold datL at e
    cases e
    exact ⟨[], ReadsAll.nil, rfl, Nat.zero_le _⟩
  | 0, _ :: _, d, _, e, a => by unfold datL at e; cases e
  | f + 1, x :: xs, d, v :: vs, e, ⟨a1, a2⟩ => by
    unfold datL at e
    split at e
    · cases e
    · rename_i d1 h1
      split at e
      · cases e
      · rename_i ds h2
        cases e
        obtain ⟨as, r1, r2, r3⟩ := datV_reads R f x d1 v h1 a1
        obtain ⟨bs, q1, q2, q3⟩ := datL_reads R f xs ds vs h2 a2
        refine ⟨_, ReadsAll.cons r1 q1, ?_, ?_⟩
        · show ((ZD.data X.σ d1).canLay0 && PyData.canLayAll0 (ZD.datas X.σ ds)) = true
          rw [r2, q2]; rfl
        · show max (ZD.data X.σ d1).depth (PyData.depthAll (ZD.datas X.σ ds)) ≤ f + 1
          omega
  | _, [], _, _ :: _, _, h => h.elim
  | _ + 1, _ :: _, _, [], _, h => h.elim
end
end
end Mine

end
section
namespace Mine
open PySem PySem.W PyProof.Rows PySem.Calls

section
variable {X : Cx} {D : Desc}
theorem hasInt_scan {xs : List Int} (h : xs.length < scanBound) : xs.length < scanBound := h
theorem sound_cmpM {A : Around} {env : Env} {fs : List (Addr × NsM)} {s₀ : Shared} {ρ : List Addr} {fr : Frm} {st : St} {s : Shared} {Q : Value → Shared → Prop} {E : Value → Shared → Prop} {op : CmpOp} {x y : MV} {x' y' : Value} {c : Bool}
    (W : Wd X D A env fs) (O : Ok X D env fs s₀ ρ fr st s) (hx : AbsV X.σ ρ x x') (hy : AbsV X.σ ρ y y') (e : cmp op x y st = some c)
    (h : ∀ s', Ok X D env fs s₀ ρ fr st s' → Q (.bool c) s') : wpAny X.M A (compareOp op x' y') Q E s := by
  have hu := W.unit
  unfold cmp at e
  split at e
  · cases e; cases hx; cases hy; exact is_none_none (h _ O)
  · cases e; obtain ⟨a, _, rfl⟩ := hx; cases hy; exact is_ref_none (h _ O)
  · cases e; cases hx; cases hy; exact isnot_none_none (h _ O)
  · cases e; obtain ⟨a, _, rfl⟩ := hx; cases hy; exact isnot_ref_none (h _ O)
  · rename_i a b
    obtain ⟨ta, rfl⟩ := hx; obtain ⟨tb, rfl⟩ := hy
    refine PyProof.Rows.eq_int ?_
    have hz := Z.eqv_den X.σ e
    have : (a.den X.σ == b.den X.σ) = c := by
      rw [← hz]
      by_cases q : a.den X.σ = b.den X.σ
      · rw [decide_eq_true q, q]; simp
      · rw [decide_eq_false q]; exact beq_eq_false_iff_ne.mpr q
    rw [this]; exact h _ O
  · rename_i a b
    split at e
    · rename_i c' hc
      cases e
      obtain ⟨ta, rfl⟩ := hx; obtain ⟨tb, rfl⟩ := hy
      refine PyProof.Rows.ne_int ?_
      have hz := Z.eqv_den X.σ hc
      have : (a.den X.σ != b.den X.σ) = !c' := by
        rw [← hz]
        by_cases q : a.den X.σ = b.den X.σ
        · rw [decide_eq_true q, q]; simp
        · rw [decide_eq_false q]; exact bne_iff_ne.mpr q
      rw [this]; exact h _ O
    · cases e
  · cases e
    obtain ⟨ta, rfl⟩ := hx; obtain ⟨tb, rfl⟩ := hy
    exact PyProof.Rows.lt_int (h _ O)
  · cases e
    obtain ⟨ta, rfl⟩ := hx; obtain ⟨tb, rfl⟩ := hy
    exact PyProof.Rows.ge_int (h _ O)
  · rename_i a i
    obtain ⟨ta, rfl⟩ := hx; obtain ⟨b, hb, rfl⟩ := hy
    split at e
    · rename_i xs hi
      split at e
      · rename_i l hl
        cases e
        obtain ⟨va, ⟨na, pa⟩, qa⟩ := O.at hi hb
        refine in_list_ints (vs := va.toList) ⟨_, pa, rfl, _, rfl⟩ (ints_are hl qa) ?_
        rw [hasInt_any]; exact h _ O
      · cases e
    · rename_i es _ hi
      cases e
      obtain ⟨m, R⟩ := O.rel
      obtain ⟨kvs, ep, _, hd, hk⟩ := R.at hi hb
      refine wpAny_in_of (intKind_is X.prog X.w a ta) (R.low hi hb) hd.dictOf.mapOf ?_
      have : (valueAt kvs a).isSome = hasKey a es := by
        have z := valueAt_abs a hk
        rw [hasKey_find]
        split at z
        · rename_i q; obtain ⟨v, z1, _⟩ := z; rw [z1, q]; rfl
        · rename_i q; rw [z, q]; rfl
      rw [this]; exact h _ O.tok
    · rename_i xs hi
      split at e
      · rename_i hn
        cases e
        obtain ⟨o, ho, hso⟩ := O.at hi hb
        exact wpAny_inSet_of (intKind_is X.prog X.w a ta) rfl (hso.setOf ho (Nat.lt_of_lt_of_le (Nat.lt_succ_of_le (Nat.le_of_ble_eq_true hn)) (by decide))) (h _ O.tok)
      · cases e
    · cases e
  · rename_i i j
    obtain ⟨a, ha, rfl⟩ := hx; obtain ⟨b, hb, rfl⟩ := hy
    unfold eqLists at e
    split at e
    · cases e
    · rename_i d1 h1
      split at e
      · cases e
      · rename_i d2 h2
        obtain ⟨m, R⟩ := O.rel
        obtain ⟨as, r1, r2, r3⟩ := datV_reads R 20 _ d1 (.ref a) h1 ⟨a, ha, rfl⟩
        obtain ⟨bs, q1, q2, q3⟩ := datV_reads R 20 _ d2 (.ref b) h2 ⟨b, hb, rfl⟩
        refine SeqAt.compareEq_reads r1 q1 r2 q2 (by omega) ?_
        rw [eqZD_sound X.σ d1 d2 c e]; exact h _ O
  · rename_i i j
    obtain ⟨a, ha, rfl⟩ := hx; obtain ⟨b, hb, rfl⟩ := hy
    split at e
    · rename_i c' hc
      cases e
      unfold eqLists at hc
      split at hc
      · cases hc
      · rename_i d1 h1
        split at hc
        · cases hc
        · rename_i d2 h2
          obtain ⟨m, R⟩ := O.rel
          obtain ⟨as, r1, r2, r3⟩ := datV_reads R 20 _ d1 (.ref a) h1 ⟨a, ha, rfl⟩
          obtain ⟨bs, q1, q2, q3⟩ := datV_reads R 20 _ d2 (.ref b) h2 ⟨b, hb, rfl⟩
          refine SeqAt.compareNe_reads r1 q1 r2 q2 (by omega) ?_
          rw [eqZD_sound X.σ d1 d2 c' hc]; exact h _ O
    · cases e
  · cases e
theorem sound_eCmp {l r : Expr} {op : CmpOp} {a b : ME} (pos : Pos) (ha : SoundE X D l a) (hb : SoundE X D r b) (hm : behindInMarks op r = false := by with_unfolding_all rfl) : SoundE X D (.Compare l [op] [r] pos) (eCmp op a b) := by
  intro A env fs s₀ ρ fr st s v fr' st' Q E W O e h
  unfold eCmp at e
  split at e
  · cases e
  · rename_i x f1 s1 e1
    split at e
    · cases e
    · rename_i y f2 s2 e2
      split at e
      · cases e
      · rename_i c e3
        cases e
        exact wpAny_Compare1 (ha W O e1 fun ρ1 x' t1 x1 O1 a1 => hb W O1 e2 fun ρ2 y' t2 x2 O2 a2 =>
          sound_cmpM W O2 (a1.mono x2) a2 e3 fun t3 O3 => h ρ2 _ t3 (x1.trans x2) O3 rfl) hm
theorem sound_tCmp {l r : Expr} {op : CmpOp} {a b : ME} (pos : Pos) (ha : SoundE X D l a) (hb : SoundE X D r b) (hm : behindInMarks op r = false := by with_unfolding_all rfl) : SoundT X D (.Compare l [op] [r] pos) (tCmp op a b) := by
  intro A env fs s₀ ρ fr st s v fr' st' Q E W O e h
  unfold tCmp at e
  split at e
  · cases e
  · rename_i x f1 s1 e1
    split at e
    · cases e
    · rename_i y f2 s2 e2
      split at e
      · cases e
      · rename_i c e3
        cases e
        exact wpAny_isTrue_Compare1 (ha W O e1 fun ρ1 x' t1 x1 O1 a1 => hb W O1 e2 fun ρ2 y' t2 x2 O2 a2 =>
          sound_cmpM W O2 (a1.mono x2) a2 e3 fun t3 O3 => wpAny_truthy_bool (h ρ2 t3 (x1.trans x2) O3)) hm
end
end Mine

end
section
namespace Mine
open PySem PySem.W PyProof.Rows PySem.Calls

/-- a callee's contract: whoever calls it -/
noncomputable def SoundF (X : Cx) (d : Nat) (f : Value) (F : MF) (b : Bool := true) : Prop :=
  ∀ {D : Desc} {A : Around} {env : Env} {fs : List (Addr × NsM)} {s₀ : Shared} {ρ : List Addr} {fr : Frm} {st : St} {s : Shared} {xs : List MV} {vs : List Value} {v : MV} {st' : St} {Q : Value → Shared → Prop} {E : Value → Shared → Prop},
    Wd X D A env fs → d < D.d → (b = true → D.h = true) → Ok X D env fs s₀ ρ fr st s → AbsVs X.σ ρ xs vs → F xs st = some (v, st') →
    (∀ ρ' v' s', Ext ρ ρ' → Ok X D env fs s₀ ρ' fr st' s' → AbsV X.σ ρ' v v' → Q v' s') → wpAny X.M A (call f vs) Q E s
/-- how the machine keeps the callee -/
noncomputable def CallOk (X : Cx) (f : Value) : Prop := ∀ h : Heap, (∀ b o, X.t.get? b = some o → h.get? b = some o) → ∃ k, (k = Keeper.frame ∨ k = Keeper.machine ∨ k = Keeper.boundFrame) ∧ Looks X.M h (keeperOf f) k
theorem callOk_builtin {X : Cx} (id : String) : CallOk X (.builtin id) := fun _ _ => ⟨.machine, .inr (.inl rfl), Looks.now⟩
theorem callOk_type {X : Cx} (T : String) : CallOk X (.type T) := fun _ _ => ⟨.machine, .inr (.inl rfl), Looks.now⟩
theorem callOk_K {X : Cx} (G : Gd X) {f : Value} (h : keepIn X.K f = true) : CallOk X f := fun hp k => keeps_K h hp (G.k.keeps k)

section
variable {X : Cx} {D : Desc}
theorem plain_args (pos : Pos) : ∀ {ls : List Expr} {as : List ME}, SoundL X D ls as → ∀ env : Env, (backTo pos (starEach ls env)).any (·.1) = false
  | [], [], _, _ => rfl
  | l :: ls, a :: as, ⟨_, hs, hr⟩, env => by
    rw [hs env ls]
    show (false || (backTo pos (starEach ls env)).any (·.1)) = false
    rw [plain_args pos hr env]; rfl
  | [], _ :: _, h, _ => h.elim
  | _ :: _, [], h, _ => h.elim
theorem evalArgs_all (pos : Pos) {f : Value} : ∀ {ls : List Expr} {as : List ME}, SoundL X D ls as → ∀ {M : Model} {A : Around} {env : Env} {s : Shared} {Q : Args → Shared → Prop} {E : Value → Shared → Prop},
    wpAny M A (spliced (backTo pos (starEach ls env))) (fun vs s' => Q ⟨vs, []⟩ s') E s → wpAny M A (evalArgs f true (backTo pos (starEach ls env)) []) Q E s
  | [], [], _, M, A, env, s, Q, E, h => by
    unfold evalArgs
    show wpAny M A (spliced [] >>= _) Q E s
    refine wpAny_bind (wpAny_mono h (fun vs s' h' => ?_) fun _ _ x => x)
    refine wpAny_bind (wpAny_pure ?_)
    refine wpAny_holding ?_
    exact wpAny_bind (wpAny_pure (wpAny_bind (wpAny_pure (wpAny_pure h'))))
  | l :: ls, a :: as, ⟨_, hs, hr⟩, M, A, env, s, Q, E, h => by
    rw [hs env ls] at h ⊢
    exact evalArgs_plain h
  | [], _ :: _, h, _, _, _, _, _, _, _ => h.elim
  | _ :: _, [], h, _, _, _, _, _, _, _ => h.elim
/-- f(a, ..), f a global name -/
theorem sound_call {x : Str} {p pos : Pos} {ls : List Expr} {as : List ME} {f : Value} {F : MF} {d : Nat} {b : Bool} (hf : SoundE X D (.Name x p) (eK (.val f))) (hk : CallOk X f) (hF : SoundF X d f F b) (hd : d < D.d) (hh : b = true → D.h = true) (hl : SoundL X D ls as) :
    SoundE X D (.Call (.Name x p) ls [] pos) (eCall F as) := by
  intro A env fs s₀ ρ fr st s v fr' st' Q E W O e h
  unfold eCall at e
  split at e
  · cases e
  · rename_i xs f1 s1 e1
    split at e
    · cases e
    · rename_i y s2 e2
      cases e
      refine Call_ (hf W O rfl fun ρ1 f' t1 x1 O1 a1 => ?_)
      cases a1
      refine callWith_of (P := fun h => ∀ b o, X.t.get? b = some o → h.get? b = some o) (by rw [plain_args pos hl env]; rfl) hk ?_
      refine evalArgs_all pos hl (sound_all pos hl W O1 e1 fun ρ2 vs t2 x2 O2 a2 => ⟨O2.top, ?_⟩)
      exact hF W hd hh O2 a2 e2 fun ρ3 v' t3 x3 O3 a3 => h ρ3 v' t3 ((x1.trans x2).trans x3) O3 a3

-- built-in functions
theorem sound_len (d : Nat) : SoundF X d (.builtin "len") fLen false := by
  intro D A env fs s₀ ρ fr st s xs vs v st' Q E W hd hh O a e h
  unfold fLen at e
  split at e
  · rename_i i
    match vs, a with
    | [v1], ⟨⟨a1, ha, hv⟩, _⟩ =>
      subst hv
      split at e
      · rename_i ys hi
        split at e
        · rename_i hs
          cases e
          obtain ⟨va, ⟨na, pa⟩, qa⟩ := O.at hi ha
          have la : _ = va.size := qa.length.trans Array.length_toList
          have := short_le hs
          refine call_len_list ⟨_, pa, rfl, _, rfl⟩ (by omega) (h ρ _ _ (Ext.refl ρ) O.tok ⟨s.toks + 1, ?_⟩)
          show Value.int (va.size : Int) _ = Value.int (ys.length : Int) _
          rw [la]
        · cases e
      · rename_i ys hi
        split at e
        · rename_i hs
          cases e
          obtain ⟨va, ⟨na, pa⟩, qa⟩ := O.at hi ha
          have la : _ = va.size := qa.length.trans Array.length_toList
          have := short_le hs
          refine PyProof.Rows.len_tuple ⟨_, pa, rfl, _, rfl⟩ (by omega) (h ρ _ _ (Ext.refl ρ) O.tok ⟨s.toks + 1, ?_⟩)
          show Value.int (va.size : Int) _ = Value.int (ys.length : Int) _
          rw [la]
        · cases e
      · cases e
  · cases e
theorem sound_range (d : Nat) : SoundF X d (.type "range") fRange false := by
  intro D A env fs s₀ ρ fr st s xs vs v st' Q E W hd hh O a e h
  unfold fRange at e
  split at e
  · rename_i b
    match vs, a with
    | [v1], ⟨⟨t1, hv⟩, _⟩ =>
      subst hv
      cases e
      exact call_range_1 (h _ _ _ (Ext.snoc ρ _) (O.new (fun b ob eb => Heap.get?_push_of_some _ eb) ⟨_, _, _, Heap.get?_push_size _ rfl⟩) (O.newV _))
  · rename_i x y z
    match vs, a with
    | [v1, v2, v3], ⟨⟨t1, hv1⟩, ⟨t2, hv2⟩, ⟨t3, hv3⟩, _⟩ =>
      subst hv1 hv2 hv3
      split at e
      · rename_i hz ht
        cases e
        have ht' := of_decide_eq_true ht
        exact call_range_3 (of_decide_eq_false hz) (h _ _ _ (Ext.snoc ρ _) (O.new (fun b ob eb => Heap.get?_push_of_some _ eb) ⟨_, _, _, Heap.get?_push_size _ rfl⟩) (O.newV _)) (Or.inl (PyProof.noPylong_small (by simp only [Z.den]; omega)))
      · cases e
  · cases e
theorem sum_pairs {σ : List Int} {ρ : List Addr} : ∀ {xs : List MV} {vs : List Value} {a z : Z}, sumV a xs = some z → AbsVs σ ρ xs vs → ∃ l : List (Int × Tok), vs = l.map (fun p => .int p.1 p.2) ∧ a.den σ + (l.map (·.1)).sum = z.den σ
  | [], [], a, z, e, _ => by
    unfold sumV at e; cases e
    exact ⟨[], rfl, by simp⟩
  | x :: xs, v :: vs, a, z, e, ⟨h1, h2⟩ => by
    unfold sumV at e
    split at e
    · cases ‹_ :: _ = []›
    · rename_i b r heq
      cases heq
      split at e
      · rename_i c hc
        obtain ⟨t, rfl⟩ := h1
        obtain ⟨l, hl, hs⟩ := sum_pairs e h2
        refine ⟨(b.den σ, t) :: l, by rw [hl]; rfl, ?_⟩
        rw [Z.add_den σ hc] at hs
        rw [List.map_cons, List.sum_cons]; omega
      · cases e
    · cases e
  | [], _ :: _, _, _, _, h => h.elim
  | _ :: _, [], _, _, _, h => h.elim
theorem sound_sum (d : Nat) : SoundF X d (.builtin "sum") fSum := by
  intro D A env fs s₀ ρ fr st s xs vs v st' Q E W hd hh O a e h
  unfold fSum at e
  split at e
  · rename_i i
    match vs, a with
    | [v1], ⟨⟨a1, ha, hv⟩, _⟩ =>
      subst hv
      split at e
      · rename_i ys hi
        split at e
        · rename_i z hz
          cases e
          obtain ⟨va, ⟨na, pa⟩, qa⟩ := O.at hi ha
          obtain ⟨l, hl, hs⟩ := sum_pairs hz qa
          have hva : va = intItems l.toArray := by
            apply Array.ext'
            rw [hl]; simp [intItems]
          have pl : s.heap.IsList a1 (intItems l.toArray) := hva ▸ ⟨_, pa, rfl, _, rfl⟩
          refine sum_intListG (W.hand (hh rfl)) pl fun h' tk t' hk => h ρ _ _ (Ext.refl ρ) (O.grown hk) ⟨t', ?_⟩
          rw [preSum_eq, List.take_of_length_le (by simp)]
          have hs' : (l.map (·.1)).sum = z.den X.σ := by
            rw [← hs]; simp only [Z.den]; omega
          show Value.int ((l.toArray.toList.map (·.1)).sum) t' = _
          rw [show l.toArray.toList = l from rfl, hs']
        · cases e
      · cases e
  · cases e
theorem sound_tuple (d : Nat) : SoundF X d (.type "tuple") fTuple false := by
  intro D A env fs s₀ ρ fr st s xs vs v st' Q E W hd hh O a e h
  unfold fTuple at e
  split at e
  · rename_i i
    match vs, a with
    | [v1], ⟨⟨a1, ha, hv⟩, _⟩ =>
      subst hv
      split at e
      · rename_i ys hi
        split at e
        · rename_i hs
          cases e
          obtain ⟨va, ⟨na, pa⟩, qa⟩ := O.at hi ha
          have la : _ = va.size := qa.length.trans Array.length_toList
          have := short_le hs
          have := line_big
          refine call_tuple_list ⟨_, pa, rfl, _, rfl⟩ (fun h' hk => ?_) (by omega)
          have O1 : Ok X D env fs s₀ ρ fr st { s with heap := h', toks := s.toks } := O.grown hk
          exact h _ _ _ (Ext.snoc ρ _) (O1.new (tk := s.toks) (fun b ob eb => Heap.get?_push_of_some _ eb) ⟨va, ⟨0, Heap.get?_push_size _ rfl⟩, qa.mono (Ext.snoc ρ _)⟩) (O1.newV _)
        · cases e
      · cases e
  · cases e
theorem sound_set (d : Nat) : SoundF X d (.type "set") fSet false := by
  intro D A env fs s₀ ρ fr st s xs vs v st' Q E W hd hh O a e h
  unfold fSet at e
  split at e
  · match vs, a with
    | [], _ =>
      cases e
      refine call_set_0 fun led => h _ _ _ (Ext.snoc ρ _) (O.new (tk := s.toks) (fun b ob eb => Heap.get?_push_of_some _ eb) ⟨_, Heap.get?_push_size _ rfl, setObjOf_fresh led⟩) (O.newV _)
  · cases e
end
end Mine

end
section
namespace Mine
open PySem PySem.W PyProof.Rows PySem.Calls

theorem AbsKv.length {σ : List Int} {ρ : List Addr} : ∀ {m : List (Int × MV)} {v : List (Int × Value)}, AbsKv σ ρ m v → m.length = v.length
  | [], [], _ => rfl
  | (_, _) :: _, (_, _) :: _, ⟨_, _, b⟩ => by rw [List.length_cons, List.length_cons, AbsKv.length b]
  | [], _ :: _, h => h.elim
  | (_, _) :: _, [], h => h.elim
theorem AbsKv.get {σ : List Int} {ρ : List Addr} : ∀ {m : List (Int × MV)} {v : List (Int × Value)}, AbsKv σ ρ m v → ∀ {i : Nat} {p : Int × MV}, m[i]? = some p → ∃ u, v[i]? = some (p.1, u) ∧ AbsV σ ρ p.2 u
  | [], [], _, _, _, e => by cases e
  | (k, x) :: _, (l, v) :: _, ⟨a, b, c⟩, 0, _, e => by cases e; subst a; exact ⟨v, rfl, b⟩
  | (_, _) :: _, (_, _) :: _, ⟨a, b, c⟩, i + 1, p, e => by
    have e' : (_ : List (Int × MV))[i]? = some p := e
    obtain ⟨u, h1, h2⟩ := AbsKv.get c e'
    exact ⟨u, h1, h2⟩
  | [], _ :: _, h, _, _, _ => h.elim
  | (_, _) :: _, [], h, _, _, _ => h.elim
theorem AbsKv.none {σ : List Int} {ρ : List Addr} {m : List (Int × MV)} {v : List (Int × Value)} (h : AbsKv σ ρ m v) {i : Nat} (e : m[i]? = Option.none) : v[i]? = Option.none := by
  rw [List.getElem?_eq_none_iff] at e ⊢
  rw [← h.length]; exact e
theorem int_key {prog : Program} {w : World} {k : Int} {v : Value} (h : (intKind prog w).is k v = true) : ∃ t, v = .int k t := by
  unfold intKind at h
  simp only [Value.isInt] at h
  cases v <;> simp at h
  rename_i i t
  exact ⟨t, by rw [h]⟩

section
variable {X : Cx} {D : Desc}
theorem sound_iter {A : Around} {env : Env} {fs : List (Addr × NsM)} {s₀ : Shared} {ρ : List Addr} {fr : Frm} {st st' : St} {s : Shared} {Q : Value → Shared → Prop} {E : Value → Shared → Prop} {x : MV} {x' : Value} {j : Nat}
    (O : Ok X D env fs s₀ ρ fr st s) (hx : AbsV X.σ ρ x x') (e : iterM x st = some (j, st'))
    (h : ∀ ρ' a s', Ext ρ ρ' → Ok X D env fs s₀ ρ' fr st' s' → ρ'[j]? = some a → Q (.ref a) s') : wpAny X.M A (pyIter x') Q E s := by
  have newAt : ∀ a, (ρ ++ [a])[st.n]? = some a := fun a => by rw [← O.n]; simp
  have kp : ∀ (o : Obj) b ob, s.heap.get? b = some ob → (s.heap.push o).get? b = some ob := fun o b ob eb => Heap.get?_push_of_some _ eb
  unfold iterM at e
  split at e
  · rename_i i
    obtain ⟨a, ha, rfl⟩ := hx
    split at e
    · rename_i xs hi
      cases e
      obtain ⟨va, ⟨na, pa⟩, qa⟩ := O.at hi ha
      exact wpAny_pyIter_list ⟨_, pa, rfl, _, rfl⟩ (h _ _ _ (Ext.snoc ρ _) (O.new (tk := s.toks) (kp _) ⟨a, (Ext.snoc ρ _).get ha, ⟨_, Heap.get?_push_size _ rfl, rfl, rfl⟩⟩) (newAt _))
    · rename_i xs hi
      cases e
      obtain ⟨va, ⟨na, pa⟩, qa⟩ := O.at hi ha
      exact wpAny_pyIter_tuple ⟨_, pa, rfl, _, rfl⟩ (h _ _ _ (Ext.snoc ρ _) (O.new (tk := s.toks) (kp _) ⟨a, (Ext.snoc ρ _).get ha, ⟨_, Heap.get?_push_size _ rfl, rfl, rfl⟩⟩) (newAt _))
    · rename_i es g hi
      cases e
      obtain ⟨m, R⟩ := O.rel
      obtain ⟨kvs, ep, he, hd, hk⟩ := R.at hi ha
      rw [hk.length] at h
      exact wpAny_pyIter_dict (R.low hi ha) hd (h _ _ _ (Ext.snoc ρ _) (O.new (tk := s.toks) (kp _) ⟨a, ep, (Ext.snoc ρ _).get ha, (Ext.snoc ρ _).get he, ⟨_, Heap.get?_push_size _ rfl, rfl, rfl⟩⟩) (newAt _))
    · rename_i d hi
      split at e
      · rename_i es g hi2
        cases e
        obtain ⟨da, hda, hv⟩ := O.at hi ha
        obtain ⟨kvs, ep, he, hd, hk⟩ := O.at hi2 hda
        rw [hk.length] at h
        exact wpAny_pyIter_values hv hd (h _ _ _ (Ext.snoc ρ _) (O.new (tk := s.toks) (kp _) ⟨da, ep, (Ext.snoc ρ _).get hda, (Ext.snoc ρ _).get he, ⟨_, Heap.get?_push_size _ rfl, rfl, rfl⟩⟩) (newAt _))
      · cases e
    · rename_i x y z hi
      split at e
      · rename_i hs
        cases e
        obtain ⟨t, u, v, hr⟩ := O.at hi ha
        exact wpAny_pyIter_range hr hs (h _ _ _ (Ext.snoc ρ _) (O.new (tk := s.toks) (kp _) (Heap.get?_push_size _ rfl)) (newAt _))
      · cases e
    · cases e
  · cases e
theorem sound_next {A : Around} {env : Env} {fs : List (Addr × NsM)} {s₀ : Shared} {ρ : List Addr} {fr : Frm} {st st' : St} {s : Shared} {Q : Option Value → Shared → Prop} {E : Value → Shared → Prop} {r : Option MV} {j : Nat} {a : Addr} (hh : A.handled = none)
    (O : Ok X D env fs s₀ ρ fr st s) (ha : ρ[j]? = some a) (e : nextM j st = some (r, st'))
    (h1 : ∀ v v' s', r = some v → Ok X D env fs s₀ ρ fr st' s' → AbsV X.σ ρ v v' → Q (some v') s') (h2 : r = none → ∀ s', Ok X D env fs s₀ ρ fr st' s' → Q none s') : wpAny X.M A (pyNext (.ref a)) Q E s := by
  unfold nextM at e
  split at e
  · rename_i i k hj
    obtain ⟨la, hla, hit⟩ := O.at hj ha
    split at e
    · rename_i xs hi
      obtain ⟨va, ⟨na, pa⟩, qa⟩ := O.at hi hla
      split at e
      · rename_i v hv
        cases e
        obtain ⟨u, hu, au⟩ := qa.get hv
        exact wpAny_pyNext_list_item hit ⟨_, pa, rfl, _, rfl⟩ (by rw [← Array.getElem?_toList]; exact hu) fun h' hit' hs => h1 v u _ rfl (O.put (tk := s.toks) hj ha (fun b ob hb eb => hs.extBut b ob hb eb) ⟨la, hla, hit'⟩) au
      · rename_i hv
        cases e
        exact wpAny_pyNext_list_end hh hit ⟨_, pa, rfl, _, rfl⟩ (by rw [← Array.getElem?_toList]; exact qa.none hv) fun h' hs => h2 rfl _ (O.drop (tk := s.toks) hj ha fun b ob hb eb => hs b ob hb eb)
    · cases e
  · rename_i i k hj
    obtain ⟨la, hla, hit⟩ := O.at hj ha
    split at e
    · rename_i xs hi
      obtain ⟨va, ⟨na, pa'⟩, qa⟩ := O.at hi hla
      have pa : s.heap.IsTuple la va := ⟨_, pa', rfl, _, rfl⟩
      split at e
      · rename_i v hv
        cases e
        obtain ⟨u, hu, au⟩ := qa.get hv
        exact wpAny_pyNext_tuple_item hit pa (by rw [← Array.getElem?_toList]; exact hu) fun h' hit' hs => h1 v u _ rfl (O.put (tk := s.toks) hj ha (fun b ob hb eb => hs.extBut b ob hb eb) ⟨la, hla, hit'⟩) au
      · rename_i hv
        cases e
        exact wpAny_pyNext_tuple_end hh hit pa (by rw [← Array.getElem?_toList]; exact qa.none hv) fun h' hs => h2 rfl _ (O.drop (tk := s.toks) hj ha fun b ob hb eb => hs b ob hb eb)
    · cases e
  · rename_i x left step hj
    have hit : IsRangeIter s.heap a x left step := O.at hj ha
    split at e
    · rename_i hl
      cases e
      exact wpAny_pyNext_range_item hit (of_decide_eq_true hl) fun h' hit' hs => h1 _ _ _ rfl (O.put hj ha (fun b ob hb eb => hs.extBut b ob hb eb) hit') ⟨_, rfl⟩
    · rename_i hl
      cases e
      exact wpAny_pyNext_range_end hh hit (Int.not_lt.mp (of_decide_eq_false hl)) fun h' hs => h2 rfl _ (O.drop (tk := s.toks) hj ha fun b ob hb eb => hs b ob hb eb)
  · rename_i d k n g hj
    obtain ⟨da, ep, hda, hg, hit⟩ := O.at hj ha
    split at e
    · rename_i es g' hi
      obtain ⟨kvs, ep', he, hd, hk⟩ := O.at hi hda
      split at e
      · cases e
      · rename_i hn
        split at e
        · cases e
        · rename_i hgg
          have hn' := Nat.eq_of_beq_eq_true hn
          have hg' := Nat.eq_of_beq_eq_true hgg
          subst hn' hg'
          rw [hg] at he; cases he
          rw [hk.length] at hit
          split at e
          · rename_i p hp
            cases e
            obtain ⟨u, hu, au⟩ := hk.get hp
            refine wpAny_pyNext_dict_item hit hd hu fun key h' hkey hit' hs => ?_
            obtain ⟨t, rfl⟩ := int_key hkey
            refine h1 _ _ _ rfl (O.put (tk := s.toks) hj ha (fun b ob hb eb => hs.extBut b ob hb eb) ⟨da, ep, hda, hg, ?_⟩) ⟨_, rfl⟩
            rw [hk.length]; exact hit'
          · rename_i hp
            cases e
            exact wpAny_pyNext_dict_end hh hit hd (hk.none hp) fun h' hs => h2 rfl _ (O.drop (tk := s.toks) hj ha fun b ob hb eb => hs b ob hb eb)
    · cases e
  · rename_i d k n g hj
    obtain ⟨da, ep, hda, hg, hit⟩ := O.at hj ha
    split at e
    · rename_i es g' hi
      obtain ⟨kvs, ep', he, hd, hk⟩ := O.at hi hda
      split at e
      · cases e
      · rename_i hn
        split at e
        · cases e
        · rename_i hgg
          have hn' := Nat.eq_of_beq_eq_true hn
          have hg' := Nat.eq_of_beq_eq_true hgg
          subst hn' hg'
          rw [hg] at he; cases he
          rw [hk.length] at hit
          split at e
          · rename_i p hp
            cases e
            obtain ⟨u, hu, au⟩ := hk.get hp
            refine wpAny_pyNext_values_item hit hd hu fun h' hit' hs => ?_
            refine h1 _ _ _ rfl (O.put (tk := s.toks) hj ha (fun b ob hb eb => hs.extBut b ob hb eb) ⟨da, ep, hda, hg, ?_⟩) au
            rw [hk.length]; exact hit'
          · rename_i hp
            cases e
            exact wpAny_pyNext_values_end hh hit hd (hk.none hp) fun h' hs => h2 rfl _ (O.drop (tk := s.toks) hj ha fun b ob hb eb => hs b ob hb eb)
    · cases e
  · cases e
end
end Mine

end
section
namespace Mine
open PySem PySem.W PyProof.Rows PySem.Calls

theorem AbsKv.append {σ : List Int} {ρ : List Addr} : ∀ {m m' : List (Int × MV)} {v v' : List (Int × Value)}, AbsKv σ ρ m v → AbsKv σ ρ m' v' → AbsKv σ ρ (m ++ m') (v ++ v')
  | [], _, [], _, _, h => h
  | (_, _) :: _, _, (_, _) :: _, _, ⟨a, b, c⟩, h => ⟨a, b, AbsKv.append c h⟩
  | [], _, (_, _) :: _, _, h, _ => h.elim
  | (_, _) :: _, _, [], _, h, _ => h.elim
theorem stored_cons_eq {b : Int} {u v : Value} {kvs : List (Int × Value)} (hn : b ∉ kvs.map (·.1)) : stored ((b, u) :: kvs) b v = (b, v) :: kvs := by
  unfold stored
  rw [if_pos (by simp), List.map_cons, if_pos rfl, map_store_of_not_mem _ _ _ hn]
theorem stored_cons_ne {a b : Int} {u v : Value} {kvs : List (Int × Value)} (hn : b ≠ a) : stored ((b, u) :: kvs) a v = (b, u) :: stored kvs a v := by
  unfold stored
  by_cases q : kvs.any (fun kv => decide (kv.1 = a)) = true
  · rw [if_pos q, if_pos (by simp [q]), List.map_cons, if_neg hn]
  · rw [if_neg q, if_neg (by simp only [List.any_cons, decide_eq_false hn, Bool.false_or]; exact q)]; rfl
theorem AbsKv.stored {σ : List Int} {ρ : List Addr} {a : Int} {x : MV} {v : Value} (hx : AbsV σ ρ x v) : ∀ {m : List (Int × MV)} {kvs : List (Int × Value)}, AbsKv σ ρ m kvs → (kvs.map (·.1)).Nodup → AbsKv σ ρ (putKey a x m) (PySem.stored kvs a v)
  | [], [], _, _ => ⟨rfl, hx, trivial⟩
  | (b, y) :: m, (c, u) :: kvs, ⟨h1, h2, h3⟩, hn => by
    subst h1
    rw [List.map_cons, List.nodup_cons] at hn
    unfold putKey
    by_cases q : b = a
    · subst q
      rw [stored_cons_eq hn.1]
      simp only [decide_true]
      exact ⟨rfl, hx, h3⟩
    · rw [stored_cons_ne q]
      simp only [decide_eq_false q]
      exact ⟨rfl, h2, AbsKv.stored hx h3 hn.2⟩
  | [], (_, _) :: _, h, _ => h.elim
  | (_, _) :: _, [], h, _ => h.elim
theorem AbsKv.without {σ : List Int} {ρ : List Addr} {a : Int} : ∀ {m m' : List (Int × MV)} {kvs : List (Int × Value)}, AbsKv σ ρ m kvs → (kvs.map (·.1)).Nodup → delKey a m = some m' → AbsKv σ ρ m' (PySem.without kvs a) ∧ (valueAt kvs a).isSome = true
  | [], _, [], _, _, e => by cases e
  | (b, y) :: m, m', (c, u) :: kvs, ⟨h1, h2, h3⟩, hn, e => by
    subst h1
    rw [List.map_cons, List.nodup_cons] at hn
    unfold delKey at e
    by_cases q : b = a
    · subst q
      simp only [decide_true] at e
      cases e
      have : PySem.without ((b, u) :: kvs) b = kvs := by
        have := without_of_not_mem kvs b hn.1
        simp only [PySem.without, List.filter_cons, ne_eq, not_true, decide_false] at this ⊢
        exact this
      rw [this]
      exact ⟨h3, by unfold valueAt; rw [List.find?_cons_of_pos (by simp)]; rfl⟩
    · simp only [decide_eq_false q] at e
      split at e
      · rename_i r' er
        cases e
        obtain ⟨g1, g2⟩ := AbsKv.without h3 hn.2 er
        have : PySem.without ((b, u) :: kvs) a = (b, u) :: PySem.without kvs a := by
          simp only [PySem.without, List.filter_cons, ne_eq, q, not_false_eq_true, decide_true, if_true]
        rw [this]
        refine ⟨⟨rfl, h2, g1⟩, ?_⟩
        unfold valueAt at g2 ⊢
        rw [List.find?_cons_of_neg (by simpa using q)]; exact g2
      · cases e
  | [], _, (_, _) :: _, h, _, _ => h.elim
  | (_, _) :: _, _, [], h, _, _ => h.elim
theorem AbsVs.setAt {σ : List Int} {ρ : List Addr} {x : MV} {v : Value} (hx : AbsV σ ρ x v) : ∀ {m : List MV} {vs : List Value}, AbsVs σ ρ m vs → ∀ i : Nat, AbsVs σ ρ (Mine.setAt m i x) (vs.set i v)
  | [], [], _, _ => trivial
  | _ :: _, _ :: _, ⟨a, b⟩, 0 => ⟨hx, b⟩
  | _ :: _, _ :: _, ⟨a, b⟩, i + 1 => ⟨a, AbsVs.setAt hx b i⟩
  | [], _ :: _, h, _ => h.elim
  | _ :: _, [], h, _ => h.elim
theorem setAt_length (v : MV) : ∀ (xs : List MV) (i : Nat), (setAt xs i v).length = xs.length
  | [], _ => rfl
  | _ :: _, 0 => rfl
  | _ :: xs, i + 1 => congrArg (· + 1) (setAt_length v xs i)

noncomputable def SoundTg (X : Cx) (D : Desc) (tg : Expr) (t : Tgt) : Prop :=
  ∀ {A : Around} {env : Env} {fs : List (Addr × NsM)} {s₀ : Shared} {ρ : List Addr} {fr : Frm} {st : St} {s : Shared} {v : MV} {v' : Value} {fr' : Frm} {st' : St} {Q : Unit → Shared → Prop} {E : Value → Shared → Prop},
    Wd X D A env fs → Ok X D env fs s₀ ρ fr st s → AbsV X.σ ρ v v' → store t v fr st = some (fr', st') →
    (∀ ρ' s', Ext ρ ρ' → Ok X D env fs s₀ ρ' fr' st' s' → Q () s') → wpAny X.M A (assign tg env v') Q E s

section
variable {X : Cx} {D : Desc} {env : Env} {fs : List (Addr × NsM)} {s₀ : Shared} {ρ : List Addr} {fr : Frm} {st : St} {s : Shared}
theorem Ok.setLoc (O : Ok X D env fs s₀ ρ fr st s) (hnd : D.ns.Nodup) {i : Nat} {x : Str} (hx : D.ns[i]? = some x) {v : MV} {v' : Value} (hv : AbsV X.σ ρ v v') {h' : Heap} {tk : Nat}
    (k : ∀ m, s.heap.Ns env.locals m → h'.Ns env.locals (fun y => if y = x then some v' else m y) ∧ Heap.SameBut env.locals s.heap h') :
    Ok X D env fs s₀ ρ ⟨fr.loc.set i (some v), fr.cel⟩ st { s with heap := h', toks := tk } := by
  obtain ⟨⟨h, tk0, rfl⟩, ⟨m, R, L⟩, C⟩ := O
  obtain ⟨k1, k2⟩ := k m R.ns
  refine ⟨⟨h', tk, rfl⟩, ⟨_, R.frame k1 k2, fun j u e => ?_⟩, C⟩
  rw [List.getElem?_set] at e
  split at e
  · rename_i hij
    subst hij
    split at e
    · cases e
      exact ⟨x, v', hx, if_pos rfl, hv⟩
    · cases e
  · rename_i hij
    obtain ⟨y, u', h1, h2, h3⟩ := L j u e
    refine ⟨y, u', h1, ?_, h3⟩
    rw [if_neg]; exact h2
    intro q; subst q
    obtain ⟨hi, e1⟩ := List.getElem?_eq_some_iff.mp hx
    obtain ⟨hj, e2⟩ := List.getElem?_eq_some_iff.mp h1
    exact hij ((List.getElem_inj hnd).mp (e1.trans e2.symm))
end
section
variable {X : Cx} {D : Desc}
theorem sound_storeLoc {A : Around} {env : Env} {fs : List (Addr × NsM)} {s₀ : Shared} {ρ : List Addr} {fr : Frm} {st : St} {s : Shared} {v : MV} {v' : Value} {Q : Unit → Shared → Prop} {E : Value → Shared → Prop} {x : Str} (i : Nat) (hx : D.ns[i]? = some x)
    (W : Wd X D A env fs) (O : Ok X D env fs s₀ ρ fr st s) (hv : AbsV X.σ ρ v v')
    (h : ∀ s', Ok X D env fs s₀ ρ ⟨fr.loc.set i (some v), fr.cel⟩ st s' → Q () s') : wpAny X.M A (storeName env x v') Q E s := by
  have hl := W.ok.loc x (mem_of_get hx)
  obtain ⟨m, R⟩ := O.rel
  refine wpAny_storeName_local (by show env.scope.names.lookup x = _; rw [W.names]; exact hl.1) R.ns (fun h' hn hs => h _ (O.setLoc W.ok.nd hx hv fun m' hm' => ⟨?_, hs⟩)) (by rw [W.kind]; rfl)
  have : m' = m := by
    funext y
    exact hm'.agree R.ns y
  rw [this]; exact hn
theorem sound_tgLoc {x : Str} (i : Nat) (pos : Pos) (hx : D.ns[i]? = some x) : SoundTg X D (.Name x pos) (.loc i) := by
  intro A env fs s₀ ρ fr st s v v' fr' st' Q E W O hv e h
  cases e
  exact wpAny_assign_Name (sound_storeLoc i hx W O hv fun s' O' => h ρ s' (Ext.refl ρ) O')
theorem sound_tgCel {x : Str} (j : Nat) (pos : Pos) (hx : D.cs[j]? = some x) (hk : D.names.lookup x = some .cell) : SoundTg X D (.Name x pos) (.cel j) := by
  intro A env fs s₀ ρ fr st s v v' fr' st' Q E W O hv e h
  unfold store at e
  simp only at e
  split at e
  · rename_i i ei
    split at e
    · rename_i v0 ev
      cases e
      obtain ⟨y, a, h1, h2, h3⟩ := O.cel j i ei
      rw [hx] at h1; cases h1
      obtain ⟨o, u, g1, g2, g3⟩ := O.at ev h2
      refine wpAny_assign_Name (wpAny_storeName_cell W.kind (by show env.scope.names.lookup x = _; rw [W.names]; exact hk) h3 ⟨o, g1, g2⟩ fun h' hc hs => h ρ _ (Ext.refl ρ) (O.put (tk := s.toks) ev h2 (fun b ob hb eb => (hs.2 b hb).trans eb) ?_))
      obtain ⟨o', g4, g5⟩ := hc
      exact ⟨o', _, g4, g5, v', rfl, hv⟩
    · cases e
  · cases e
theorem sound_setItem {A : Around} {env : Env} {fs : List (Addr × NsM)} {s₀ : Shared} {ρ : List Addr} {fr : Frm} {st st' : St} {s : Shared} {x y v : MV} {x' y' v' : Value} {Q : Unit → Shared → Prop} {E : Value → Shared → Prop}
    (O : Ok X D env fs s₀ ρ fr st s) (hx : AbsV X.σ ρ x x') (hy : AbsV X.σ ρ y y') (hv : AbsV X.σ ρ v v') (e : setItemM x y v st = some st')
    (h : ∀ ρ' s', Ext ρ ρ' → Ok X D env fs s₀ ρ' fr st' s' → Q () s') : wpAny X.M A (setItem x' y' v') Q E s := by
  unfold setItemM at e
  split at e
  · rename_i i a
    obtain ⟨l, hl, rfl⟩ := hx
    obtain ⟨t, rfl⟩ := hy
    split at e
    · rename_i xs hi
      split at e
      · rename_i ha
        cases e
        have ha' := of_decide_eq_true ha
        obtain ⟨va, ⟨na, pa⟩, qa⟩ := O.at hi hl
        have la : xs.length = va.size := qa.length.trans Array.length_toList
        refine ki_setAt (n := na) (k := a) pa ha'.1 (by omega) (by omega) (h ρ _ (Ext.refl ρ) (O.put (tk := s.toks) hi hl (fun b ob hb eb => ((Heap.SameBut.update ..).2 b hb).trans eb) ?_))
        have q := PySem.IsL.update (n := na) pa (·.setIfInBounds a.toNat v')
        exact ⟨_, ⟨_, q⟩, by rw [Array.toList_setIfInBounds]; exact qa.setAt hv _⟩
      · cases e
    · rename_i es g hi
      split at e
      · rename_i hz
        cases e
        obtain ⟨kvs, ep, he, hd, hk⟩ := O.at hi hl
        have hz' := Nat.le_of_ble_eq_true hz
        have := line_big
        refine wpAny_setItem_pairs (knd := intKind X.prog X.w) (k := a) (intKind_is _ _ _ _) hd.dictOf (fun h' hm hs => ?_) (by rw [← hk.length]; omega)
        obtain ⟨ep', hd'⟩ := hm.dictAt
        have O1 := (O.ghost ep')
        have hp : (ρ ++ [ep'])[st.n]? = some ep' := by rw [← O.n]; simp
        exact h _ _ (Ext.snoc ρ ep') (O1.put (tk := s.toks + 1) (o := .dict es g) hi ((Ext.snoc ρ ep').get hl) (fun b ob hb eb => (hs.2 b hb).trans eb) ⟨_, ep', hp, hd', (hk.mono (Ext.snoc ρ ep')).stored (hv.mono (Ext.snoc ρ ep')) hd.nodup⟩)
      · cases e
    · cases e
  · cases e
theorem sound_tgItem {oe ie : Expr} {o i : ME} (pos : Pos) (ho : SoundE X D oe o) (hi : SoundE X D ie i) : SoundTg X D (.Subscript oe ie pos) (.item o i) := by
  intro A env fs s₀ ρ fr st s v v' fr' st' Q E W O hv e h
  unfold store at e
  simp only at e
  split at e
  · cases e
  · rename_i x f1 s1 e1
    split at e
    · cases e
    · rename_i y f2 s2 e2
      split at e
      · cases e
      · rename_i s3 e3
        cases e
        rw [arm_assign_Subscript]
        refine wpAny_bind (wpAny_holding (ho W O e1 fun ρ1 x' t1 x1 O1 a1 => ?_))
        refine wpAny_bind (wpAny_holding (hi W O1 e2 fun ρ2 y' t2 x2 O2 a2 => ?_))
        refine wpAny_bind (wpAny_standAt (wpAny_bind (wpAny_holding (sound_setItem O2 (a1.mono x2) a2 (hv.mono (x1.trans x2)) e3 fun ρ3 t3 x3 O3 => ?_))))
        exact wpAny_release (h ρ3 t3 ((x1.trans x2).trans x3) O3)
/-- a subscript that is no slice -/
noncomputable def NoSlice (e : Expr) : Prop := ∀ o i, subscripted e false o i = operate [o, i] (getItem o i)
theorem getLast_get {α : Type} : ∀ {l : List α} {x : α}, l.getLast? = some x → l[l.length - 1]? = some x := by
  intro l x h
  rw [List.getLast?_eq_getElem?] at h; exact h
theorem sound_eItem {oe ie : Expr} {o i : ME} (pos : Pos) (ho : SoundE X D oe o) (hi : SoundE X D ie i) (hs : NoSlice ie) : SoundE X D (.Subscript oe ie pos) (eItem o i) := by
  intro A env fs s₀ ρ fr st s v fr' st' Q E W O e h
  unfold eItem at e
  split at e
  · cases e
  · rename_i x f1 s1 e1
    split at e
    · cases e
    · rename_i y f2 s2 e2
      split at e
      · cases e
      · rename_i v1 e3
        cases e
        refine Subscript_ (ho W O e1 fun ρ1 x' t1 x1 O1 a1 => hi W O1 e2 fun ρ2 y' t2 x2 O2 a2 => ?_)
        have a1' := a1.mono x2
        unfold item at e3
        split at e3
        · rename_i j c
          obtain ⟨l, hl, rfl⟩ := a1'
          obtain ⟨t, rfl⟩ := a2
          split at e3
          · rename_i xs hj
            obtain ⟨va, ⟨na, pa⟩, qa⟩ := O2.at hj hl
            have hL : t2.heap.IsList l va := ⟨_, pa, rfl, _, rfl⟩
            refine tail_any hL.typeIs slot_list_getitem.lookup ?_ (hs _ _)
            unfold getIdx at e3
            split at e3
            · rename_i hc
              have hc' := of_decide_eq_true hc
              obtain ⟨u, hu, au⟩ := qa.get e3
              exact wpAny_getItem_list hL hc'.1 (by simp only [Z.den]; omega) (by rw [← Array.getElem?_toList]; exact hu) (h _ _ _ (x1.trans x2) O2 au)
            · rename_i hc
              have hc' := of_decide_eq_true (by assumption : decide (c = -1) = true)
              subst hc'
              obtain ⟨u, hu, au⟩ := qa.get (getLast_get e3)
              have la : xs.length = va.size := qa.length.trans Array.length_toList
              have hpos : 0 < xs.length := by
                cases xs with
                | nil => cases e3
                | cons => simp
              refine wpAny_getItem_list_neg hL (by simp only [Z.den]; omega) (by simp only [Z.den]; omega) (by simp only [Z.den]; omega) ?_ (h _ _ _ (x1.trans x2) O2 au)
              rw [← Array.getElem?_toList, ← hu]
              congr 1
              simp only [Z.den]; omega
            · cases e3
          · rename_i es g hj
            obtain ⟨kvs, ep, he, hd, hk⟩ := O2.at hj hl
            have hv := valueAt_abs c hk
            rw [e3] at hv
            obtain ⟨u, hu, au⟩ := hv
            exact tail_any hd.dictOf.typeIs slot_dict_getitem.lookup (wpAny_getItem_of (knd := intKind X.prog X.w) (k := c) (intKind_is _ _ _ _) hd.dictOf.mapOf hu (h _ _ _ (x1.trans x2) O2.tok au)) (hs _ _)
          · cases e3
        · cases e3
end
end Mine

end
section
namespace Mine
open PySem PySem.W PyProof.Rows PySem.Calls

/-- looking a method up on one of ours -/
noncomputable def GetM (X : Cx) (k : Kd) (name : Str) (f : Value) : Prop :=
  ∀ {D : Desc} {env : Env} {A : Around} {fs : List (Addr × NsM)} {s₀ : Shared} {ρ : List Addr} {fr : Frm} {st : St} {s : Shared} {i : Nat} {a : Addr} {pl : Sem Bool} {Q : Value × List Value → Shared → Prop} {E : Value → Shared → Prop},
    Ok X D env fs s₀ ρ fr st s → isKd k st.H i = true → ρ[i]? = some a → Q (f, [.ref a]) s → wpAny X.M A (getMethod (.ref a) name pl) Q E s
noncomputable def MethForm (oe : Expr) (name : Str) (apos pos : Pos) (ls : List Expr) : Prop := ∀ env : Env, ∃ pl : Sem Bool, eval (.Call (.Attribute oe name apos) ls [] pos) env = (do
      let ov ← eval oe env
      standAt apos.atName
      let (f, first) ← holding [ov] (getMethod ov name pl)
      callWith pos f first (backTo pos (starEach ls env)) [])

section
variable {X : Cx} {D : Desc}
theorem sound_meth {oe : Expr} {o : ME} {k : Kd} {name : Str} {apos pos : Pos} {ls : List Expr} {as : List ME} {f : Value} {F : MF} {d : Nat} {b : Bool} (ho : SoundE X D oe o) (hm : GetM X k name f) (he : MethForm oe name apos pos ls) (hk : CallOk X f) (hF : SoundF X d f F b) (hd : d < D.d) (hh : b = true → D.h = true) (hl : SoundL X D ls as) :
    SoundE X D (.Call (.Attribute oe name apos) ls [] pos) (eMeth k F o as) := by
  intro A env fs s₀ ρ fr st s v fr' st' Q E W O e h
  unfold eMeth at e
  split at e
  · rename_i i f1 s1 e1
    split at e
    · rename_i hi
      split at e
      · cases e
      · rename_i xs f2 s2 e2
        split at e
        · cases e
        · rename_i y s3 e3
          cases e
          obtain ⟨pl, he'⟩ := he env
          refine MethodCall_ (pl := pl) (ho W O e1 fun ρ1 o' t1 x1 O1 a1 => ?_) he'
          obtain ⟨a, ha, rfl⟩ := a1
          refine hm O1 hi ha ?_
          refine callWith_of (P := fun h => ∀ b o, X.t.get? b = some o → h.get? b = some o) (by rw [plain_args pos hl env]; rfl) hk ?_
          refine evalArgs_all pos hl (sound_all pos hl W O1 e2 fun ρ2 vs t2 x2 O2 a2 => ⟨O2.top, ?_⟩)
          exact hF (xs := .ref i :: xs) (vs := .ref a :: vs) W hd hh O2 ⟨⟨a, x2.get ha, rfl⟩, a2⟩ e3 fun ρ3 v' t3 x3 O3 a3 => h ρ3 v' t3 ((x1.trans x2).trans x3) O3 a3
    · cases e
  · cases e

theorem isKd_list {H : PT MO} {i : Nat} (h : isKd .list H i = true) : ∃ xs, H.get i = some (.list xs) := by
  unfold isKd at h
  cases q : H.get i with
  | none => rw [q] at h; cases h
  | some o => rw [q] at h; cases o <;> first | exact ⟨_, rfl⟩ | cases h
theorem isKd_dict {H : PT MO} {i : Nat} (h : isKd .dict H i = true) : ∃ es g, H.get i = some (.dict es g) := by
  unfold isKd at h
  cases q : H.get i with
  | none => rw [q] at h; cases h
  | some o => rw [q] at h; cases o <;> first | exact ⟨_, _, rfl⟩ | cases h
theorem isKd_set {H : PT MO} {i : Nat} (h : isKd .set H i = true) : ∃ xs, H.get i = some (.iset xs) ∧ xs.length ≤ 1000 := by
  unfold isKd at h
  cases q : H.get i with
  | none => rw [q] at h; cases h
  | some o => rw [q] at h; cases o <;> first | exact ⟨_, rfl, Nat.le_of_ble_eq_true h⟩ | cases h
theorem isKd_inst {H : PT MO} {i : Nat} (h : isKd .inst H i = true) : ∃ d x0 x1 x2 x3, H.get i = some (.inst d) ∧ H.get d = some (.idict x0 x1 x2 x3) := by
  unfold isKd at h
  cases q : H.get i with
  | none => rw [q] at h; cases h
  | some o =>
    rw [q] at h
    cases o with
    | inst d =>
      simp only at h
      cases r : H.get d with
      | none => rw [r] at h; cases h
      | some o' =>
        rw [r] at h
        cases o' <;> first | exact ⟨_, _, _, _, _, rfl, r⟩ | cases h
    | _ => cases h
-- lists
theorem getM_list {name : Str} {id : String} (slot : Slot "list" name id) (hty : typeOf (.builtin id) = pure (.type "method_descriptor")) : GetM X .list name (.builtin id) := by
  intro D env A fs s₀ ρ fr st s i a pl Q E O hi ha h
  obtain ⟨xs, hj⟩ := isKd_list hi
  obtain ⟨va, ⟨na, pa⟩, qa⟩ := O.at hj ha
  exact getMethod_list_of slot hty ⟨_, pa, rfl, _, rfl⟩ ⟨_, pa, rfl⟩ h
theorem getM_dict {name : Str} {id : String} (slot : Slot "dict" name id) (hty : typeOf (.builtin id) = pure (.type "method_descriptor")) : GetM X .dict name (.builtin id) := by
  intro D env A fs s₀ ρ fr st s i a pl Q E O hi ha h
  obtain ⟨es, g, hj⟩ := isKd_dict hi
  obtain ⟨kvs, ep, he, hd, hk⟩ := O.at hj ha
  exact getMethod_builtin hd.dictOf.typeIs PySem.F.plainAttrs_dict slot hty hd.dictOf.mapOf.noDict h
theorem scan_big : 1002 < scanBound := by unfold scanBound; omega
theorem getM_set : GetM X .set "add" (.builtin "set.add") := by
  intro D env A fs s₀ ρ fr st s i a pl Q E O hi ha h
  obtain ⟨xs, hj, hz⟩ := isKd_set hi
  obtain ⟨o, ho, hs⟩ := O.at hj ha
  have := scan_big
  exact getMethod_set_add (hs.setOf ho (by omega)) h
theorem sound_append (d : Nat) : SoundF X d (.builtin "list.append") fAppend false := by
  intro D A env fs s₀ ρ fr st s xs vs v st' Q E W hd hh O a e h
  unfold fAppend at e
  split at e
  · rename_i i x
    match vs, a with
    | [v1, v2], ⟨⟨a1, ha, hv⟩, hx, _⟩ =>
      subst hv
      split at e
      · rename_i ys hi
        split at e
        · rename_i hs
          cases e
          obtain ⟨va, ⟨na, pa⟩, qa⟩ := O.at hi ha
          have la : _ = va.size := qa.length.trans Array.length_toList
          have := short_le hs
          have := line_big
          refine append_at pa (fun h' hsb hg => h ρ _ _ (Ext.refl ρ) (O.put (tk := s.toks) hi ha (fun b ob hb eb => (hsb.2 b hb).trans eb) ⟨_, ⟨_, hg⟩, ?_⟩) rfl) (by omega)
          rw [Array.toList_push]
          exact qa.append ⟨hx, trivial⟩
        · cases e
      · cases e
  · cases e
theorem sound_extend (d : Nat) : SoundF X d (.builtin "list.extend") fExtend false := by
  intro D A env fs s₀ ρ fr st s xs vs v st' Q E W hd hh O a e h
  unfold fExtend at e
  split at e
  · rename_i i j
    match vs, a with
    | [v1, v2], ⟨⟨a1, ha, hv⟩, ⟨a2, hb, hw⟩, _⟩ =>
      subst hv hw
      split at e
      · rename_i ys hi
        split at e
        · rename_i zs hj
          split at e
          · rename_i hs hs2
            cases e
            obtain ⟨va, ⟨na, pa⟩, qa⟩ := O.at hi ha
            obtain ⟨vb, ⟨nb, pb⟩, qb⟩ := O.at hj hb
            have la : _ = va.size := qa.length.trans Array.length_toList
            have lb : _ = vb.size := qb.length.trans Array.length_toList
            have := short_le hs
            have := short_le hs2
            have := line_big
            refine call_meets PySem.F.slot_list_extend ⟨_, pa, rfl⟩ PySem.F.entry_list_extend (PySem.F.args_list_extend_2 _ _) (PySem.AutoSeq1.list_extend_list_tuple_0 a1 va na a2 vb nb (extend_door (by omega)) (by omega) (by omega)) ⟨pa, pb, h ρ _ _ (Ext.refl ρ) (O.put (tk := s.toks) hi ha (fun b ob hb eb => ((Heap.SameBut.update ..).2 b hb).trans eb) ?_) rfl⟩
            have q := PySem.IsL.update (n := na) pa (· ++ vb)
            exact ⟨_, ⟨_, q⟩, by rw [Array.toList_append]; exact qa.append qb⟩
          · cases e
        · cases e
      · cases e
  · cases e
theorem sound_clear (d : Nat) : SoundF X d (.builtin "list.clear") fClear false := by
  intro D A env fs s₀ ρ fr st s xs vs v st' Q E W hd hh O a e h
  unfold fClear at e
  split at e
  · rename_i i
    match vs, a with
    | [v1], ⟨⟨a1, ha, hv⟩, _⟩ =>
      subst hv
      split at e
      · rename_i ys hi
        split at e
        · rename_i hs
          cases e
          obtain ⟨va, ⟨na, pa⟩, qa⟩ := O.at hi ha
          have la : _ = va.size := qa.length.trans Array.length_toList
          have := short_le hs
          have := line_big
          refine call_meets PySem.F.slot_list_clear ⟨_, pa, rfl⟩ PySem.F.entry_list_clear (PySem.F.args_list_clear_1 _) (PySem.AutoSeq1.list_clear_list_0 a1 va na (by omega)) ⟨pa, h ρ _ _ (Ext.refl ρ) (O.put (tk := s.toks) hi ha (fun b ob hb eb => ((Heap.SameBut.update ..).2 b hb).trans eb) ?_) rfl⟩
          have q := PySem.IsL.update (n := na) pa (fun _ => #[])
          exact ⟨_, ⟨_, q⟩, trivial⟩
        · cases e
      · cases e
  · cases e
theorem AbsVs.dropLast {σ : List Int} {ρ : List Addr} : ∀ {m : List MV} {v : List Value}, AbsVs σ ρ m v → AbsVs σ ρ m.dropLast v.dropLast
  | [], [], _ => trivial
  | [_], [_], _ => trivial
  | x :: y :: m, u :: w :: v, ⟨a, b⟩ => ⟨a, AbsVs.dropLast (m := y :: m) (v := w :: v) b⟩
  | [], _ :: _, h => h.elim
  | _ :: _, [], h => h.elim
  | [_], _ :: _ :: _, h => h.2.elim
  | _ :: _ :: _, [_], h => h.2.elim
theorem sound_pop (d : Nat) : SoundF X d (.builtin "list.pop") fPop false := by
  intro D A env fs s₀ ρ fr st s xs vs v st' Q E W hd hh O a e h
  unfold fPop at e
  split at e
  · rename_i i
    match vs, a with
    | [v1], ⟨⟨a1, ha, hv⟩, _⟩ =>
      subst hv
      split at e
      · rename_i ys hi
        split at e
        · rename_i y hs hy
          cases e
          obtain ⟨va, ⟨na, pa⟩, qa⟩ := O.at hi ha
          have la : ys.length = va.size := qa.length.trans Array.length_toList
          have := short_le hs
          have := line_big
          obtain ⟨u, hu, au⟩ := qa.get (getLast_get hy)
          refine call_meets PySem.F.slot_list_pop ⟨_, pa, rfl⟩ PySem.F.entry_list_pop (PySem.F.args_list_pop_1 _) (PySem.MeetsSeq.list_pop_last a1 va na u (by rw [← Array.getElem?_toList, ← la]; exact hu) (by omega)) ⟨pa, h ρ _ _ (Ext.refl ρ) (O.put (tk := s.toks) hi ha (fun b ob hb eb => ((Heap.SameBut.update ..).2 b hb).trans eb) ?_) au⟩
          have q := PySem.IsL.update (n := na) pa (fun xs => xs.eraseIdxIfInBounds (va.size - 1))
          refine ⟨_, ⟨_, q⟩, ?_⟩
          have hpos : 0 < va.size := by
            rw [← la]
            cases ys with
            | nil => cases hy
            | cons => simp
          have : (va.eraseIdxIfInBounds (va.size - 1)).toList = va.toList.dropLast := by
            unfold Array.eraseIdxIfInBounds
            rw [dif_pos (by omega), Array.toList_eraseIdx, List.eraseIdx_eq_dropLast]
            simp; omega
          rw [this]
          exact qa.dropLast
        · cases e
      · cases e
  · cases e
theorem sound_get (d : Nat) : SoundF X d (.builtin "dict.get") fGet false := by
  intro D A env fs s₀ ρ fr st s xs vs v st' Q E W hd hh O a e h
  unfold fGet at e
  split at e
  · rename_i i c
    match vs, a with
    | [v1, v2], ⟨⟨a1, ha, hv⟩, ⟨t, hw⟩, _⟩ =>
      subst hv hw
      split at e
      · rename_i es g hi
        obtain ⟨m, R⟩ := O.rel
        obtain ⟨kvs, ep, he, hd, hk⟩ := O.at hi ha
        have hv := valueAt_abs c hk
        refine call_meetsIn PySem.F.slot_dict_get hd.dictOf.typeIs PySem.F.entry_dict_get (PySem.F.args_dict_get_2 _ _) (meets_dict_get (intKind X.prog X.w) a1 (k := c) (intKind_is _ _ _ _) (R.low hi ha)) ⟨_, hd.dictOf.mapOf, ?_⟩
        split at e
        · rename_i x hx
          cases e
          rw [hx] at hv
          obtain ⟨u, hu, au⟩ := hv
          rw [hu]
          exact h ρ _ _ (Ext.refl ρ) O.tok au
        · rename_i hx
          cases e
          rw [hx] at hv
          simp only at hv
          rw [hv]
          exact h ρ _ _ (Ext.refl ρ) O.tok rfl
      · cases e
  · cases e
theorem sound_values (d : Nat) : SoundF X d (.builtin "dict.values") fValues false := by
  intro D A env fs s₀ ρ fr st s xs vs v st' Q E W hd hh O a e h
  unfold fValues at e
  split at e
  · rename_i i
    match vs, a with
    | [v1], ⟨⟨a1, ha, hv⟩, _⟩ =>
      subst hv
      split at e
      · rename_i es g hi
        cases e
        obtain ⟨m, R⟩ := O.rel
        obtain ⟨kvs, ep, he, hd, hk⟩ := O.at hi ha
        exact call_meetsIn PySem.F.slot_dict_values hd.dictOf.typeIs PySem.F.entry_dict_values (PySem.F.args_dict_values_1 _) (meets_dict_values (intKind X.prog X.w) a1 (R.low hi ha)) ⟨⟨_, hd.dictOf⟩, h _ _ _ (Ext.snoc ρ _) (O.new (tk := s.toks) (fun b ob eb => Heap.get?_push_of_some _ eb) ⟨a1, (Ext.snoc ρ _).get ha, _, Heap.get?_push_size _ rfl, rfl, rfl⟩) (O.newV _)⟩
      · cases e
  · cases e
theorem hasInt_snoc (c k : Int) : ∀ l : List Int, hasInt k (l ++ [c]) = (hasInt k l || decide (k = c))
  | [] => by
    simp only [List.nil_append, hasInt]
    by_cases h : c = k
    · simp [h]
    · have h' : ¬ k = c := fun e => h e.symm
      simp [h, h']
  | b :: r => by
    simp only [List.cons_append, hasInt]
    by_cases h : b = k
    · simp [h]
    · simp [h, hasInt_snoc c k r]
theorem sound_add (d : Nat) : SoundF X d (.builtin "set.add") fAdd false := by
  intro D A env fs s₀ ρ fr st s xs vs v st' Q E W hd hh O a e h
  unfold fAdd at e
  split at e
  · rename_i i c
    match vs, a with
    | [v1, v2], ⟨⟨a1, ha, hv⟩, ⟨t, hw⟩, _⟩ =>
      subst hv hw
      split at e
      · rename_i ys hi
        split at e
        · rename_i hz hin
          cases e
          obtain ⟨o, ho, hs⟩ := O.at hi ha
          have := Nat.le_of_ble_eq_true hz
          have := scan_big
          refine call_set_add (knd := intKind X.prog X.w) (k := c) (intKind_is _ _ _ _) rfl (hs.setOf ho (by omega)) (by omega) fun h' hsb hS => h ρ _ _ (Ext.refl ρ) (O.put (tk := s.toks + 1) hi ha (fun b ob hb eb => (hsb.2 b hb).trans eb) ?_) rfl
          obtain ⟨o', ho', hs'⟩ := hS.objOf
          refine ⟨o', ho', ?_⟩
          rw [show (fun k => hasInt k (ys ++ [c])) = (fun k' => hasInt k' ys || decide (k' = c)) from funext fun k => hasInt_snoc c k ys]
          rw [hin] at hs'
          simpa using hs'
        · cases e
      · cases e
  · cases e
end
end Mine

end
section
namespace Mine
open PySem PySem.W PyProof.Rows PySem.Calls

section
variable {X : Cx} {D : Desc}
theorem sound_nil : SoundB X D [] sNil := by
  intro A env fs s₀ ρ fr st s f fr' st' Q E W O e h
  cases e
  exact wpAny_execs_nil (h ρ _ _ (Ext.refl ρ) O rfl)
theorem sound_seq {a : Stmt} {r : List Stmt} {ma mr : MS} (ha : SoundS X D a ma) (hr : SoundB X D r mr) : SoundB X D (a :: r) (sSeq ma mr) := by
  intro A env fs s₀ ρ fr st s f fr' st' Q E W O e h
  unfold sSeq at e
  split at e
  · cases e
  · rename_i f1 s1 e1
    refine wpAny_execs_cons (ha W O e1 fun ρ1 g t1 x1 O1 a1 => ?_)
    cases a1
    exact hr W O1 e fun ρ2 g t2 x2 O2 a2 => h ρ2 g t2 (x1.trans x2) O2 a2
  · rename_i x f1 s1 hne e1
    cases e
    refine wpAny_execs_cons (ha W O e1 fun ρ1 g t1 x1 O1 a1 => ?_)
    have := h ρ1 g t1 x1 O1 a1
    cases g with
    | next =>
      cases f with
      | next => exact (hne rfl).elim
      | brk => cases a1
      | cont => cases a1
      | ret v => obtain ⟨u, h1, _⟩ := a1; cases h1
    | brk => exact this
    | cont => exact this
    | ret v => exact this
/-- a statement that the run never reaches -/
theorem sound_stop (a : Stmt) : SoundS X D a sStop := by
  intro A env fs s₀ ρ fr st s f fr' st' Q E W O e h
  cases e
theorem sound_sIf {te : Expr} {b o : List Stmt} {pos : Pos} {t : MT} {mb mo : MS} (ht : SoundT X D te t) (hb : SoundB X D b mb) (ho : SoundB X D o mo) : SoundS X D (.If te b o pos) (sIf t mb mo) := by
  intro A env fs s₀ ρ fr st s f fr' st' Q E W O e h
  unfold sIf at e
  split at e
  · cases e
  · rename_i f1 s1 e1
    refine wpAny_If (ht W O e1 fun ρ1 t1 x1 O1 => ?_)
    exact hb W O1 e fun ρ2 g t2 x2 O2 a2 => h ρ2 g t2 (x1.trans x2) O2 a2
  · rename_i f1 s1 e1
    refine wpAny_If (ht W O e1 fun ρ1 t1 x1 O1 => ?_)
    exact ho W O1 e fun ρ2 g t2 x2 O2 a2 => h ρ2 g t2 (x1.trans x2) O2 a2
theorem sound_sRet {v : Expr} {pos : Pos} {mv : ME} (hv : SoundE X D v mv) : SoundS X D (.Return (some v) pos) (sRet mv) := by
  intro A env fs s₀ ρ fr st s f fr' st' Q E W O e h
  unfold sRet at e
  split at e
  · cases e
  · rename_i y f1 s1 e1
    cases e
    rw [exec_Return_some]
    exact wpAny_bind (wpAny_standAt (wpAny_bind (hv W O e1 fun ρ1 v' t1 x1 O1 a1 => wpAny_pure (h ρ1 _ t1 x1 O1 ⟨v', rfl, a1⟩))))
theorem sound_sBrk (pos : Pos) : SoundS X D (.Break pos) sBrk := by
  intro A env fs s₀ ρ fr st s f fr' st' Q E W O e h
  cases e
  exact wpAny_Break (h ρ _ _ (Ext.refl ρ) O rfl)
theorem sound_sCont (pos : Pos) : SoundS X D (.Continue pos) sCont := by
  intro A env fs s₀ ρ fr st s f fr' st' Q E W O e h
  cases e
  exact wpAny_Continue (h ρ _ _ (Ext.refl ρ) O rfl)
theorem sound_sExpr {v : Expr} {pos : Pos} {mv : ME} (hv : SoundE X D v mv) (hs : ∀ line env, swapsWith v none line env = pure false) : SoundS X D (.Expr v pos) (sExpr mv) := by
  intro A env fs s₀ ρ fr st s f fr' st' Q E W O e h
  unfold sExpr at e
  split at e
  · cases e
  · rename_i y f1 s1 e1
    cases e
    rw [exec_Expr env _ _ (by unfold interactive; rw [W.kind]; rfl) (hs _ _)]
    exact wpAny_bind (wpAny_standAt (wpAny_bind (hv W O e1 fun ρ1 v' t1 x1 O1 a1 => wpAny_dropValue (h ρ1 _ t1 x1 O1 rfl))))
theorem sound_sAssign {tg v : Expr} {pos : Pos} {mv : ME} {t : Tgt} (hv : SoundE X D v mv) (ht : SoundTg X D tg t)
    (hs : ∀ line (env : Env), env.scope.names = D.names → swapsWithSole [tg] v line env = pure false) (hw : ∀ env, swappedStores [tg] v env = pure none) (he : ∀ env, (assignEach [tg] env).map (·.2) = [assign tg env]) : SoundS X D (.Assign [tg] v pos) (sAssign t mv) := by
  intro A env fs s₀ ρ fr st s f fr' st' Q E W O e h
  unfold sAssign at e
  split at e
  · cases e
  · rename_i y f1 s1 e1
    split at e
    · cases e
    · rename_i f2 s2 e2
      cases e
      refine wpAny_Assign_stores (hv W O e1 fun ρ1 v' t1 x1 O1 a1 => ?_) (hs _ _ W.names) (hw _)
      rw [he]
      show wpAny X.M A (assign tg env v') (fun _ => Q .next) E t1
      exact ht W O1 a1 e2 fun ρ2 t2 x2 O2 => h ρ2 _ t2 (x1.trans x2) O2 rfl
theorem sound_sAssign2 {tg ug v : Expr} {pos : Pos} {mv : ME} {t u : Tgt} (hv : SoundE X D v mv) (ht : SoundTg X D tg t) (hu : SoundTg X D ug u)
    (hw : ∀ env, swappedStores [tg, ug] v env = pure none) (he : ∀ env, (assignEach [tg, ug] env).map (·.2) = [assign tg env, assign ug env]) : SoundS X D (.Assign [tg, ug] v pos) (sAssign2 t u mv) := by
  intro A env fs s₀ ρ fr st s f fr' st' Q E W O e h
  unfold sAssign2 at e
  split at e
  · cases e
  · rename_i y f1 s1 e1
    split at e
    · cases e
    · rename_i f2 s2 e2
      split at e
      · cases e
      · rename_i f3 s3 e3
        cases e
        refine wpAny_Assign_two (hv W O e1 fun ρ1 v' t1 x1 O1 a1 => ?_) (he _) (hw _)
        refine ht W O1 a1 e2 fun ρ2 t2 x2 O2 => ?_
        exact hu W O2 (a1.mono x2) e3 fun ρ3 t3 x3 O3 => h ρ3 _ t3 ((x1.trans x2).trans x3) O3 rfl
theorem sound_sUnpack {tg ug v : Expr} {c : Nat} {tp pos : Pos} {mv : ME} {t u : Tgt} (hv : SoundE X D v mv) (ht : SoundTg X D tg t) (hu : SoundTg X D ug u) (hh : D.h = true)
    (hs : ∀ line (env : Env), swapsWithSole [.Tuple [tg, ug] c tp] v line env = pure false) (hw : ∀ env, swappedStores [.Tuple [tg, ug] c tp] v env = pure none)
    (he : ∀ env, assignEach [tg, ug] env = [(false, assign tg env), (false, assign ug env)]) : SoundS X D (.Assign [.Tuple [tg, ug] c tp] v pos) (sUnpack t u mv) := by
  intro A env fs s₀ ρ fr st s f fr' st' Q E W O e h
  unfold sUnpack at e
  split at e
  · rename_i i f1 s1 e1
    split at e
    · rename_i x y hi
      split at e
      · cases e
      · rename_i f2 s2 e2
        split at e
        · cases e
        · rename_i f3 s3 e3
          cases e
          refine wpAny_Assign_stores (hv W O e1 fun ρ1 v' t1 x1 O1 a1 => ?_) (hs _ _) (hw _)
          show wpAny X.M A (assign (.Tuple [tg, ug] c tp) env v') (fun _ => Q .next) E t1
          obtain ⟨a, ha, rfl⟩ := a1
          obtain ⟨va, ⟨na, pa⟩, qa⟩ := O1.at hi ha
          have la : 2 = va.size := qa.length.trans Array.length_toList
          refine wpAny_assign_Tuple (W.hand hh) ⟨_, pa, rfl, _, rfl⟩ (by rw [he]; exact la) (by rw [he]; rfl) fun h' hx => ?_
          have O1' : Ok X D env fs s₀ ρ1 f1 s1 { t1 with heap := h' } := O1.grown (tk := t1.toks) fun b o eb => hx b o (Nat.ne_of_lt (Heap.lt_size eb)) eb
          rw [he]
          match hl : va.toList, qa with
          | [u1, u2], ⟨q1, q2, _⟩ =>
            show wpAny X.M A (assignInOrder [assign tg env, assign ug env] [u1, u2]) _ E _
            refine wpAny_assignInOrder_more (ht W O1' q1 e2 fun ρ2 t2 x2 O2 => wpAny_assignInOrder_more (hu W O2 (q2.mono x2) e3 fun ρ3 t3 x3 O3 => wpAny_assignInOrder_none (h ρ3 _ t3 ((x1.trans x2).trans x3) O3 rfl)))
    · cases e
  · cases e
theorem sound_eWalrus {x : Str} {v : Expr} {np pos : Pos} {mv : ME} (i : Nat) (hx : D.ns[i]? = some x) (hv : SoundE X D v mv) : SoundE X D (.NamedExpr (.Name x np) v pos) (eWalrus i mv) := by
  intro A env fs s₀ ρ fr st s v fr' st' Q E W O e h
  unfold eWalrus at e
  split at e
  · cases e
  · rename_i y f1 s1 e1
    cases e
    refine wpAny_NamedExpr (hv W O e1 fun ρ1 v' t1 x1 O1 a1 => ?_)
    exact sound_tgLoc i np hx W O1 a1 rfl fun ρ2 t2 x2 O2 => h ρ2 _ t2 (x1.trans x2) O2 (a1.mono x2)
/-- no tuple is unpacked by this target -/
noncomputable def PlainTg (tg : Expr) : Prop := ∀ it v, letOwnedTupleGo tg it v = pure ()
theorem sound_sFor {tg src : Expr} {b : List Stmt} {pos : Pos} {t : Tgt} {ms : ME} {mb : MS} (ht : SoundTg X D tg t) (hp : PlainTg tg) (hs : SoundE X D src ms) (hf : ∀ env x, foldedSetIterable src env x = pure x) (hh : D.h = true) (hb : SoundB X D b mb) :
    SoundS X D (.For tg src b [] pos) (sFor t ms mb) := by
  intro A env fs s₀ ρ fr st s f fr' st' Q E W O e h
  unfold sFor at e
  split at e
  · cases e
  · rename_i x f1 s1 e1
    split at e
    · cases e
    · rename_i it s2 e2
      refine wpAny_For (hs W O e1 fun ρ1 x' t1 x1 O1 a1 => sound_iter O1 a1 e2 fun ρ2 a t2 x2 O2 ha => ?_) (hf env)
      refine codeAny_forLoop_any (I := fun n s => ∃ ρ' fr1 st1, Ext ρ2 ρ' ∧ Ok X D env fs s₀ ρ' fr1 st1 s ∧ forGo t mb n it fr1 st1 = some (f, fr', st')) ?_ 40 ⟨ρ2, f1, s2, Ext.refl _, O2, e⟩
      rintro n s' ⟨ρ3, fr3, st3, x3, O3, e3⟩
      cases n with
      | zero => cases e3
      | succ n =>
        unfold forGo at e3
        split at e3
        · cases e3
        · rename_i st4 e4
          cases e3
          refine sound_next (W.hand hh) O3 (x3.get ha) e4 (fun v v' s5 hv => by cases hv) fun _ s5 O5 => ?_
          exact wpAny_execs_nil (h ρ3 _ s5 ((x1.trans x2).trans x3) O5 rfl)
        · rename_i v st4 e4
          refine sound_next (W.hand hh) O3 (x3.get ha) e4 (fun v0 v' s5 hv O5 a5 => ?_) fun hv => by cases hv
          cases hv
          show wpAny X.M A (letOwnedTupleGo tg (.ref a) v') _ _ s5
          rw [hp]
          refine wpAny_pure ?_
          split at e3
          · cases e3
          · rename_i f6 st6 e6
            refine ht W O5 a5 e6 fun ρ6 s6 x6 O6 => ?_
            split at e3
            · cases e3
            · rename_i f7 st7 e7
              refine hb W O6 e7 fun ρ7 g s7 x7 O7 a7 => ?_
              cases a7
              exact ⟨n, Nat.lt_succ_self n, ρ7, f7, st7, (x3.trans x6).trans x7, O7, e3⟩
            · rename_i f7 st7 e7
              refine hb W O6 e7 fun ρ7 g s7 x7 O7 a7 => ?_
              cases a7
              exact ⟨n, Nat.lt_succ_self n, ρ7, f7, st7, (x3.trans x6).trans x7, O7, e3⟩
            · rename_i f7 st7 e7
              cases e3
              refine hb W O6 e7 fun ρ7 g s7 x7 O7 a7 => ?_
              cases a7
              exact h ρ7 _ s7 ((((x1.trans x2).trans x3).trans x6).trans x7) O7 rfl
            · rename_i v7 f7 st7 e7
              cases e3
              refine hb W O6 e7 fun ρ7 g s7 x7 O7 a7 => ?_
              obtain ⟨u, rfl, au⟩ := a7
              exact h ρ7 _ s7 ((((x1.trans x2).trans x3).trans x6).trans x7) O7 ⟨u, rfl, au⟩
theorem sound_sWhile {te : Expr} {b o : List Stmt} {pos : Pos} {t : MT} {mb mo : MS} (ht : SoundT X D te t) (hb : SoundB X D b mb) (ho : SoundB X D o mo) :
    SoundS X D (.While te b o pos) (sWhile t mb mo) := by
  intro A env fs s₀ ρ fr st s f fr' st' Q E W O e h
  unfold sWhile at e
  refine wpAny_While ?_
  refine codeAny_whileLoop (I := fun n s => ∃ ρ' fr1 st1, Ext ρ ρ' ∧ Ok X D env fs s₀ ρ' fr1 st1 s ∧ whileGo t mb mo n fr1 st1 = some (f, fr', st')) ?_ 60 ⟨ρ, fr, st, Ext.refl _, O, e⟩
  rintro n s' ⟨ρ3, fr3, st3, x3, O3, e3⟩
  cases n with
  | zero => cases e3
  | succ n =>
    unfold whileGo at e3
    split at e3
    · cases e3
    · rename_i f4 st4 e4
      refine ht W O3 e4 fun ρ4 s4 x4 O4 => ?_
      exact ho W O4 e3 fun ρ5 g s5 x5 O5 a5 => h ρ5 _ s5 ((x3.trans x4).trans x5) O5 a5
    · rename_i f4 st4 e4
      refine ht W O3 e4 fun ρ6 s6 x6 O6 => ?_
      split at e3
      · cases e3
      · rename_i f7 st7 e7
        refine hb W O6 e7 fun ρ7 g s7 x7 O7 a7 => ?_
        cases a7
        exact ⟨n, Nat.lt_succ_self n, ρ7, f7, st7, (x3.trans x6).trans x7, O7, e3⟩
      · rename_i f7 st7 e7
        refine hb W O6 e7 fun ρ7 g s7 x7 O7 a7 => ?_
        cases a7
        exact ⟨n, Nat.lt_succ_self n, ρ7, f7, st7, (x3.trans x6).trans x7, O7, e3⟩
      · rename_i f7 st7 e7
        cases e3
        refine hb W O6 e7 fun ρ7 g s7 x7 O7 a7 => ?_
        cases a7
        exact h ρ7 _ s7 ((x3.trans x6).trans x7) O7 rfl
      · rename_i v7 f7 st7 e7
        cases e3
        refine hb W O6 e7 fun ρ7 g s7 x7 O7 a7 => ?_
        obtain ⟨u, rfl, au⟩ := a7
        exact h ρ7 _ s7 ((x3.trans x6).trans x7) O7 ⟨u, rfl, au⟩
theorem sound_delItem {A : Around} {env : Env} {fs : List (Addr × NsM)} {s₀ : Shared} {ρ : List Addr} {fr : Frm} {st st' : St} {s : Shared} {x y : MV} {x' y' : Value} {Q : Unit → Shared → Prop} {E : Value → Shared → Prop}
    (O : Ok X D env fs s₀ ρ fr st s) (hx : AbsV X.σ ρ x x') (hy : AbsV X.σ ρ y y') (e : delItemM x y st = some st')
    (h : ∀ ρ' s', Ext ρ ρ' → Ok X D env fs s₀ ρ' fr st' s' → Q () s') : wpAny X.M A (delItem x' y') Q E s := by
  unfold delItemM at e
  split at e
  · rename_i i a
    obtain ⟨l, hl, rfl⟩ := hx
    obtain ⟨t, rfl⟩ := hy
    split at e
    · rename_i es g hi
      split at e
      · rename_i es' hz hdel
        cases e
        obtain ⟨kvs, ep, he, hd, hk⟩ := O.at hi hl
        have hz' := Nat.le_of_ble_eq_true hz
        have := line_big
        have hD := hd.dictOf
        obtain ⟨g1, g2⟩ := hk.without hd.nodup hdel
        unfold delItem
        try with_reducible refine wpAny_holding ?_
        refine wpAny_bind (wpAny_sequenceKey hD.typeIs (by decide) ?_)
        refine wpAny_bind (wpAny_callSpecial?_slot (name := Str.ofString "__delitem__") hD.typeIs PySem.F.slot_dict_delitem
          (call_meetsIn PySem.F.slot_dict_delitem hD.typeIs PySem.F.entry_dict_delitem (PySem.F.args_dict_delitem_2 _ _) (meets_dict_delitem_pairs (intKind X.prog X.w) l (k := a) (intKind_is _ _ _ _)) ⟨kvs, hD, by rw [← hk.length]; omega, g2, fun h' hmm hs => ?_⟩))
        refine wpAny_pure ?_
        obtain ⟨ep', hd'⟩ := hmm.dictAt
        have O1 := (O.ghost ep')
        have hp : (ρ ++ [ep'])[st.n]? = some ep' := by rw [← O.n]; simp
        exact h _ _ (Ext.snoc ρ ep') (O1.put (tk := s.toks + 1) (o := .dict es g) hi ((Ext.snoc ρ ep').get hl) (fun b ob hb eb => (hs.2 b hb).trans eb) ⟨_, ep', hp, hd', g1.mono (Ext.snoc ρ ep')⟩)
      · cases e
    · cases e
  · cases e
theorem sound_sDel {oe ie : Expr} {sp pos : Pos} {o i : ME} (ho : SoundE X D oe o) (hi : SoundE X D ie i) : SoundS X D (.Delete [.Subscript oe ie sp] pos) (sDel o i) := by
  intro A env fs s₀ ρ fr st s f fr' st' Q E W O e h
  unfold sDel at e
  split at e
  · cases e
  · rename_i x f1 s1 e1
    split at e
    · cases e
    · rename_i y f2 s2 e2
      split at e
      · cases e
      · rename_i s3 e3
        cases e
        refine wpAny_Delete ?_
        rw [arm_deleteEach_cons]
        refine wpAny_bind ?_
        rw [arm_delete_Subscript]
        refine wpAny_bind (ho W O e1 fun ρ1 x' t1 x1 O1 a1 => ?_)
        refine wpAny_bind (wpAny_holding (hi W O1 e2 fun ρ2 y' t2 x2 O2 a2 => ?_))
        refine wpAny_bind (wpAny_standAt (wpAny_bind (wpAny_holding (sound_delItem O2 (a1.mono x2) a2 e3 fun ρ3 t3 x3 O3 => ?_))))
        exact wpAny_release (wpAny_deleteEach_nil (h ρ3 _ t3 ((x1.trans x2).trans x3) O3 rfl))
theorem sound_eDict0 (pos : Pos) : SoundE X D (.Dict [] [] pos) eDict0 := by
  intro A env fs s₀ ρ fr st s v fr' st' Q E W O e h
  cases e
  rw [eval_Dict_empty]
  refine wpAny_bind (wpAny_standAt ?_)
  obtain ⟨ep, hd⟩ := (Heap.DictOf.new (knd := intKind X.prog X.w) s.heap).dictAt
  have hp : (ρ ++ [ep])[st.n]? = some ep := by rw [← O.n]; simp
  have O1 := O.ghost ep
  have nv := O1.newV s.heap.objs.size
  refine wpAny_newObj_type (h _ _ _ ((Ext.snoc ρ ep).trans (Ext.snoc _ s.heap.objs.size)) (O1.new (tk := s.toks) (fun b ob eb => Heap.get?_push_of_some _ eb) ⟨[], ep, (Ext.snoc _ _).get hp, hd, trivial⟩) nv)
end
end Mine

end
section
namespace Mine
open PySem PySem.W PyProof.Rows PySem.Calls

section
variable {prog : Program} {w : World} {cc : Cls} {σ : List Int} {t : Heap} {fs : List (Addr × NsM)} {ρ : List Addr} {st : St} {h h' : Heap}
theorem Rel.pushF (R : Rel prog w cc σ t fs ρ st h) {C : Addr} {m : NsM} (hC : C = h.objs.size) (k : ∀ b o, h.get? b = some o → h'.get? b = some o) (hn : h'.Ns C m) : Rel prog w cc σ t ((C, m) :: fs) ρ st h' := by
  subst hC
  have f := R.fresh
  have R' := R.more k
  refine ⟨R'.top, fun p hp => ?_, ?_, R'.len, fun i o e => ?_, R'.nl, R'.inj, R'.scr⟩
  · rcases List.mem_cons.mp hp with rfl | hp
    · exact ⟨hn, f.1⟩
    · exact R'.frs p hp
  · rw [List.map_cons, List.nodup_cons]
    refine ⟨fun hm => ?_, R'.fnd⟩
    obtain ⟨p, hp, e⟩ := List.mem_map.mp hm
    exact f.2.1 p hp e
  · obtain ⟨a, ha, hA, ht, hf, hlo⟩ := R'.obj i o e
    refine ⟨a, ha, hA, ht, fun p hp => ?_, hlo⟩
    rcases List.mem_cons.mp hp with rfl | hp
    · exact fun z => f.2.2.1 i o a e ha z.symm
    · exact hf p hp
theorem Rel.popF {C : Addr} {m : NsM} (R : Rel prog w cc σ t ((C, m) :: fs) ρ st h) (hs : ∀ b o, b ≠ C → h.get? b = some o → h'.get? b = some o) : Rel prog w cc σ t fs ρ st h' := by
  have hC := (R.frs _ (List.mem_cons_self ..)).2
  have hnd := R.fnd
  rw [List.map_cons, List.nodup_cons] at hnd
  refine ⟨fun b o e => hs b o (fun z => ?_) (R.top b o e), fun p hp => ?_, hnd.2, R.len, fun i o e => ?_, R.nl, R.inj, R.scr⟩
  · rw [z, hC] at e; cases e
  · have hpq := R.frs p (List.mem_cons_of_mem _ hp)
    exact ⟨hpq.1.at' fun o e => hs _ o (fun z => hnd.1 (List.mem_map.mpr ⟨p, hp, z⟩)) e, hpq.2⟩
  · obtain ⟨a, ha, hA, ht, hf, hlo⟩ := R.obj i o e
    exact ⟨a, ha, hA.at fun ob eb => hs a ob (fun z => hf _ (List.mem_cons_self ..) z.symm) eb, ht, fun p hp => hf p (List.mem_cons_of_mem _ hp), hlo⟩
end

-- closures
noncomputable def freeNames (l : List (Str × NameKind)) : List Str := (l.filter fun x => x.2 == .free).map (·.1)
noncomputable def cloOf (env : Env) : List (Str × NameKind) → List (Str × Addr) → List (Str × Addr)
  | [], acc => acc
  | (n, k) :: r, acc => cloOf env r (if k == .free then (n, (env.cells.lookup n).getD 0) :: acc else acc)
theorem closureFor_is {env : Env} : ∀ (l : List (Str × NameKind)) (acc : List (Str × Addr)), (∀ x ∈ freeNames l, ∃ a, env.cells.lookup x = some a) →
    (forIn l acc fun (x : Str × NameKind) (cs : List (Str × Addr)) => (if x.2 == .free then (do let a ← cellOf env x.1; pure (ForInStep.yield ((x.1, a) :: cs))) else pure (ForInStep.yield cs) : Sem (ForInStep (List (Str × Addr))))) = pure (cloOf env l acc)
  | [], acc, _ => by rw [List.forIn_nil]; rfl
  | (n, k) :: r, acc, h => by
    rw [List.forIn_cons]
    by_cases q : (k == NameKind.free) = true
    · obtain ⟨a, ha⟩ := h n (by unfold freeNames; simp [q])
      have ih := closureFor_is r ((n, a) :: acc) fun x hx => h x (by unfold freeNames at hx ⊢; simp only [List.filter_cons, q, if_true, List.map_cons]; exact List.mem_cons_of_mem _ hx)
      simp only [q, if_true, cellOf, ha]
      unfold cloOf
      rw [if_pos q, ha]
      exact ih
    · have ih := closureFor_is r acc fun x hx => h x (by unfold freeNames at hx ⊢; simp only [List.filter_cons, q]; exact hx)
      simp only [q]
      unfold cloOf
      rw [if_neg q]
      exact ih
theorem closureFor_eq {scope : Scope} {env : Env} (h : ∀ x ∈ freeNames scope.names, ∃ a, env.cells.lookup x = some a) : closureFor scope env = pure (cloOf env scope.names []) := by
  have := closureFor_is scope.names [] h
  unfold closureFor
  have e : ∀ l : List (Str × NameKind), (fun (x : Str × NameKind) (cs : List (Str × Addr)) => (match x with
      | (name, kind) => if (kind == NameKind.free) = true then (do let a ← cellOf env name; pure (ForInStep.yield ((name, a) :: cs))) else pure (ForInStep.yield cs) : Sem (ForInStep (List (Str × Addr))))) =
      (fun (x : Str × NameKind) (cs : List (Str × Addr)) => (if x.2 == .free then (do let a ← cellOf env x.1; pure (ForInStep.yield ((x.1, a) :: cs))) else pure (ForInStep.yield cs) : Sem (ForInStep (List (Str × Addr))))) := fun _ => rfl
  have e' := e scope.names
  show ((forIn scope.names [] fun (x : Str × NameKind) (cs : List (Str × Addr)) => (match x with
      | (name, kind) => if (kind == NameKind.free) = true then (do let a ← cellOf env name; pure (ForInStep.yield ((name, a) :: cs))) else pure (ForInStep.yield cs) : Sem (ForInStep (List (Str × Addr))))) >>= fun cs => pure cs : Sem (List (Str × Addr))) = _
  rw [e', this]
  rfl
theorem cloOf_lookup {env : Env} {x : Str} : ∀ (l : List (Str × NameKind)) (acc : List (Str × Addr)) (a : Addr), env.cells.lookup x = some a → (x ∈ freeNames l ∨ acc.lookup x = some a) → (cloOf env l acc).lookup x = some a
  | [], acc, a, _, h => by
    rcases h with h | h
    · cases h
    · exact h
  | (n, k) :: r, acc, a, hx, h => by
    unfold cloOf
    refine cloOf_lookup r _ a hx ?_
    by_cases q : (k == NameKind.free) = true
    · rw [if_pos q]
      by_cases e : x = n
      · subst e
        right
        simp [hx]
      · rcases h with h | h
        · left
          unfold freeNames at h ⊢
          simp only [List.filter_cons, q, if_true, List.map_cons] at h
          exact (List.mem_cons.mp h).resolve_left e
        · right
          rw [List.lookup_cons, beq_eq_false_iff_ne.mpr e]; exact h
    · rw [if_neg q]
      rcases h with h | h
      · left
        unfold freeNames at h ⊢
        simp only [List.filter_cons, q] at h
        exact h
      · right; exact h

noncomputable def relab (names l : List (Str × NameKind)) : List (Str × NameKind) := l.map fun x => if (x.2 == .free && names.lookup x.1 == some .cell) then (x.1, .cell) else x
/-- the names as a comprehension sees them -/
noncomputable def compD (D : Desc) (scope : Scope) (ns cs : List Str) : Desc := { names := relab D.names scope.names, ns, cs, d := D.d, h := D.h }
theorem relabel_names {D : Desc} {env : Env} {scope : Scope} (hk : env.scope.kind = .function) (hn : env.scope.names = D.names) : (relabel scope env).names = relab D.names scope.names := by
  unfold relabel relab
  refine List.map_congr_left fun x _ => ?_
  obtain ⟨n, k⟩ := x
  show (if (k == NameKind.free && env.scope.kind == .function && env.scope.names.lookup n == some .cell) = true then (n, NameKind.cell) else (n, k)) = _
  rw [hk, hn]
  simp
theorem wpAny_compEnv {M : Model} {A : Around} {E : Value → Shared → Prop} {s : Shared} {scope : Scope} {cl : List (Str × Addr)} {env : Env} {Q : Env → Shared → Prop}
    (h : Q { scope, locals := s.heap.objs.size, globals := env.globals, cells := cellsFrom (s.heap.objs.size + 1) scope.names cl, qual := env.qual, func := none, code := env.code, frame := env.frame, builtins := env.builtins }
      { s with heap := pushCells (s.heap.push { cls := .type "dict", data := .dict #[] }) scope.names }) :
    wpAny M A (newFunctionEnv scope env.globals cl [] env.qual none .none (some env)) Q E s := by
  simp only [newFunctionEnv, Option.isSome_some, if_true]
  refine wpAny_bind (wpAny_alloc ?_)
  refine wpAny_bind (wpAny_layCells _ (fun name kind cells => by cases hkc : kind == NameKind.cell <;> simp [hkc]) _ _ _ _ ?_)
  rw [show ({ s with heap := s.heap.push { cls := .type "dict", data := .dict #[] } } : Shared).heap.objs.size = s.heap.objs.size + 1 from Heap.size_push ..]
  rw [List.forIn_nil]
  exact wpAny_bind (wpAny_pure (wpAny_pure h))

noncomputable def SoundIfs (X : Cx) (D : Desc) (ifs : List Expr) (mt : MT) : Prop :=
  ∀ {A : Around} {env : Env} {fs : List (Addr × NsM)} {s₀ : Shared} {ρ : List Addr} {fr : Frm} {st : St} {s : Shared} {b : Bool} {fr' : Frm} {st' : St} {Q : Bool → Shared → Prop} {E : Value → Shared → Prop},
    Wd X D A env fs → Ok X D env fs s₀ ρ fr st s → mt fr st = some (b, fr', st') →
    (∀ ρ' s', Ext ρ ρ' → Ok X D env fs s₀ ρ' fr' st' s' → Q b s') →
    wpAny X.M A (forIn ifs true fun c r => if r = true then do let ok ← isTrue c env (eval c env); pure (ForInStep.yield ok) else pure (ForInStep.yield r)) Q E s
section
variable {X : Cx} {D : Desc}
theorem sound_noIfs : SoundIfs X D [] (fun f s => some (true, f, s)) := by
  intro A env fs s₀ ρ fr st s b fr' st' Q E W O e h
  cases e
  rw [List.forIn_nil]
  exact wpAny_pure (h ρ s (Ext.refl ρ) O)
theorem sound_ifs {c : Expr} {mt : MT} (hc : SoundT X D c mt) : SoundIfs X D [c] mt := by
  intro A env fs s₀ ρ fr st s b fr' st' Q E W O e h
  rw [List.forIn_cons]
  simp only [if_true]
  refine wpAny_bind (wpAny_bind (hc W O e fun ρ1 s1 x1 O1 => wpAny_pure ?_))
  show wpAny X.M A (forIn [] b _) Q E s1
  rw [List.forIn_nil]
  exact wpAny_pure (h ρ1 s1 x1 O1)

/-- an iterator of ours is its own iterator -/
theorem sound_iterAgain {A : Around} {env : Env} {fs : List (Addr × NsM)} {s₀ : Shared} {ρ : List Addr} {fr : Frm} {st : St} {s : Shared} {Q : Value → Shared → Prop} {E : Value → Shared → Prop} {x : MV} {st0 : St} {j : Nat} {a : Addr} {o : MO}
    (O : Ok X D env fs s₀ ρ fr st s) (hj : st.H.get j = some o) (hi : (∃ l k, o = .liter l k) ∨ (∃ l k, o = .titer l k) ∨ (∃ x l k, o = .riter x l k) ∨ (∃ d k n v, o = .kiter d k n v) ∨ (∃ d k n v, o = .viter d k n v)) (ha : ρ[j]? = some a)
    (h : Q (.ref a) s) : wpAny X.M A (pyIter (.ref a)) Q E s := by
  rcases hi with ⟨l, k, rfl⟩ | ⟨l, k, rfl⟩ | ⟨x, l, k, rfl⟩ | ⟨d, k, n, v, rfl⟩ | ⟨d, k, n, v, rfl⟩
  · obtain ⟨la, hla, hit⟩ := O.at hj ha
    exact wpAny_pyIter_listiter hit h
  · obtain ⟨la, hla, hit⟩ := O.at hj ha
    exact wpAny_pyIter_tupleiter hit h
  · exact wpAny_pyIter_rangeiter (O.at hj ha) h
  · obtain ⟨da, ep, h1, h2, hit⟩ := O.at hj ha
    exact wpAny_pyIter_keyiter hit h
  · obtain ⟨da, ep, h1, h2, hit⟩ := O.at hj ha
    exact wpAny_pyIter_valiter hit h
end

noncomputable def isIter (o : MO) : Prop := (∃ l k, o = .liter l k) ∨ (∃ l k, o = .titer l k) ∨ (∃ x l k, o = .riter x l k) ∨ (∃ d k n v, o = .kiter d k n v) ∨ (∃ d k n v, o = .viter d k n v)
theorem nextM_iter {j : Nat} {st st' : St} {r : Option MV} (e : nextM j st = some (r, st')) : ∃ o, st.H.get j = some o ∧ isIter o := by
  unfold nextM at e
  split at e
  · exact ⟨_, ‹_›, .inl ⟨_, _, rfl⟩⟩
  · exact ⟨_, ‹_›, .inr (.inl ⟨_, _, rfl⟩)⟩
  · exact ⟨_, ‹_›, .inr (.inr (.inl ⟨_, _, _, rfl⟩))⟩
  · exact ⟨_, ‹_›, .inr (.inr (.inr (.inl ⟨_, _, _, _, rfl⟩)))⟩
  · exact ⟨_, ‹_›, .inr (.inr (.inr (.inr ⟨_, _, _, _, rfl⟩)))⟩
  · cases e
theorem frees_get {cel : List Nat} : ∀ {free l : List Nat}, frees free cel = some l → ∀ {p i : Nat}, l[p]? = some i → ∃ j, free[p]? = some j ∧ cel[j]? = some i
  | [], l, e, p, i, h => by cases e; cases h
  | j :: r, l, e, p, i, h => by
    unfold frees at e
    split at e
    · rename_i i0 l0 e0 er
      cases e
      cases p with
      | zero => cases h; exact ⟨j, rfl, e0⟩
      | succ p =>
        obtain ⟨j', h1, h2⟩ := frees_get er (show l0[p]? = some i from h)
        exact ⟨j', h1, h2⟩
    · cases e
theorem frees_len {cel : List Nat} : ∀ {free l : List Nat}, frees free cel = some l → l.length = free.length
  | [], l, e => by cases e; rfl
  | j :: r, l, e => by
    unfold frees at e
    split at e
    · rename_i i0 l0 e0 er
      cases e
      exact congrArg (· + 1) (frees_len er)
    · cases e
noncomputable def cellNames (l : List (Str × NameKind)) : List Str := (l.filter fun x => x.2 == .cell).map (·.1)
theorem cells_none : ∀ {l : List (Str × NameKind)}, cellNames l = [] → ∀ (n : Nat) (h : Heap) (acc : List (Str × Addr)), cellsFrom n l acc = acc ∧ pushCells h l = h
  | [], _, _, _, _ => ⟨rfl, rfl⟩
  | (x, k) :: r, e, n, h, acc => by
    unfold cellNames at e
    by_cases q : (k == NameKind.cell) = true
    · simp [q] at e
    · simp only [List.filter_cons, q] at e
      unfold cellsFrom pushCells
      rw [if_neg q, if_neg q]
      exact cells_none e n h acc
theorem cells_one {y : Str} : ∀ {l : List (Str × NameKind)}, cellNames l = [y] → ∀ (n : Nat) (h : Heap) (acc : List (Str × Addr)), cellsFrom n l acc = (y, n) :: acc ∧ pushCells h l = h.push { cls := .type "cell", data := .cell none }
  | [], e, _, _, _ => by cases e
  | (x, k) :: r, e, n, h, acc => by
    unfold cellNames at e
    by_cases q : (k == NameKind.cell) = true
    · simp only [List.filter_cons, q, if_true, List.map_cons, List.cons.injEq] at e
      unfold cellsFrom pushCells
      rw [if_pos q, if_pos q]
      obtain ⟨rfl, e⟩ := e
      exact cells_none e _ _ _
    · simp only [List.filter_cons, q] at e
      unfold cellsFrom pushCells
      rw [if_neg q, if_neg q]
      exact cells_one e n h acc

structure CompOk (D : Desc) (scope : Scope) (ns fnames : List Str) (own : Option Str) (free : List Nat) : Prop where
  kind : scope.kind = .function
  dok : DOk (compD D scope ns (own.toList ++ fnames))
  names : ∀ x ∈ scope.names, x.2 = .local → scope.names.lookup x.1 = some .local
  sees : free.map (fun j => D.cs[j]?) = fnames.map some
  free1 : ∀ x ∈ fnames, x ∈ freeNames scope.names
  free2 : ∀ x ∈ freeNames scope.names, x ∈ fnames
  cells : cellNames scope.names = own.toList
  apart : ∀ x ∈ own, x ∉ fnames

/-- between a comprehension's frame and the outer one -/
noncomputable def Mid (X : Cx) (D : Desc) (env : Env) (fs : List (Addr × NsM)) (s₀ : Shared) (ρ : List Addr) (fr : Frm) (st : St) (C : Addr) (s : Shared) : Prop :=
  ∃ m m', (∃ h tk, s = { s₀ with heap := h, toks := tk }) ∧ X.Rel ((C, m') :: (env.locals, m) :: fs) ρ st s.heap ∧
    (∀ (i : Nat) (v : MV), fr.loc[i]? = some (some v) → ∃ x u, D.ns[i]? = some x ∧ m x = some u ∧ AbsV X.σ ρ v u) ∧
    (∀ (j i : Nat), fr.cel[j]? = some i → ∃ x a, D.cs[j]? = some x ∧ ρ[i]? = some a ∧ env.cells.lookup x = some a)
section
variable {X : Cx} {D : Desc} {env : Env} {fs : List (Addr × NsM)} {s₀ : Shared} {ρ : List Addr} {fr : Frm} {st : St} {C : Addr} {s : Shared}
theorem Mid.ns (M : Mid X D env fs s₀ ρ fr st C s) : ∃ m, s.heap.Ns C m := let ⟨_, m', _, R, _⟩ := M; ⟨m', R.ns⟩
theorem Mid.out (M : Mid X D env fs s₀ ρ fr st C s) {h' : Heap} (hs : ∀ b o, b ≠ C → s.heap.get? b = some o → h'.get? b = some o) : Ok X D env fs s₀ ρ fr st { s with heap := h' } := by
  obtain ⟨m, m', ⟨h, tk, rfl⟩, R, L, Ce⟩ := M
  exact ⟨⟨h', tk, rfl⟩, ⟨m, R.popF hs, L⟩, Ce⟩
theorem Mid.store (M : Mid X D env fs s₀ ρ fr st C s) {h' : Heap} {m1 : NsM → NsM} {tk' : Nat} {fr' : Frm} (hs : Heap.SameBut env.locals s.heap h') (hn : ∀ m, s.heap.Ns env.locals m → h'.Ns env.locals (m1 m)) (hc : fr'.cel = fr.cel)
    (hl : ∀ m, (∀ (i : Nat) (v : MV), fr.loc[i]? = some (some v) → ∃ x u, D.ns[i]? = some x ∧ m x = some u ∧ AbsV X.σ ρ v u) → ∀ (i : Nat) (v : MV), fr'.loc[i]? = some (some v) → ∃ x u, D.ns[i]? = some x ∧ m1 m x = some u ∧ AbsV X.σ ρ v u) :
    Mid X D env fs s₀ ρ fr' st C { s with heap := h', toks := tk' } := by
  obtain ⟨m, m', ⟨h, tk, rfl⟩, R, L, Ce⟩ := M
  have hCL : C ≠ env.locals := by
    have := R.fnd
    rw [List.map_cons, List.nodup_cons] at this
    exact fun z => this.1 (List.mem_map.mpr ⟨(env.locals, m), List.mem_cons_self .., z.symm⟩)
  refine ⟨m1 m, m', ⟨h', tk', rfl⟩, ?_, hl m L, hc ▸ Ce⟩
  have hLn := R.frs (env.locals, m) (List.mem_cons_of_mem _ (List.mem_cons_self ..))
  have hnd := R.fnd
  rw [List.map_cons, List.nodup_cons] at hnd
  have hnd2 := hnd.2
  rw [List.map_cons, List.nodup_cons] at hnd2
  refine ⟨fun b o e => (hs.2 b fun z => ?_).trans (R.top b o e), fun p hp => ?_, R.fnd, R.len, fun i o e => ?_, R.nl, R.inj, R.scr⟩
  · rw [z, hLn.2] at e; cases e
  · rcases List.mem_cons.mp hp with rfl | hp
    · exact ⟨R.ns.at' fun o e => (hs.2 _ hCL).trans e, (R.frs _ (List.mem_cons_self ..)).2⟩
    · rcases List.mem_cons.mp hp with rfl | hp
      · exact ⟨hn m hLn.1, hLn.2⟩
      · have hpq := R.frs p (List.mem_cons_of_mem _ (List.mem_cons_of_mem _ hp))
        exact ⟨hpq.1.at' fun o e => (hs.2 _ fun z => hnd2.1 (List.mem_map.mpr ⟨p, hp, z⟩)).trans e, hpq.2⟩
  · obtain ⟨a, ha, hA, ht, hf, hlo⟩ := R.obj i o e
    refine ⟨a, ha, hA.at fun ob eb => (hs.2 a fun z => ?_).trans eb, ht, fun p hp => ?_, hlo⟩
    · exact hf (env.locals, m) (List.mem_cons_of_mem _ (List.mem_cons_self ..)) z.symm
    · rcases List.mem_cons.mp hp with rfl | hp
      · exact hf (C, m') (List.mem_cons_self ..)
      · rcases List.mem_cons.mp hp with rfl | hp
        · exact hf (env.locals, m) (List.mem_cons_of_mem _ (List.mem_cons_self ..))
        · exact hf p (List.mem_cons_of_mem _ (List.mem_cons_of_mem _ hp))
end
end Mine

end
section
namespace Mine
open PySem PySem.W PyProof.Rows PySem.Calls

section
variable {X : Cx} {D : Desc}
theorem names_at {D : Desc} {free : List Nat} {fnames : List Str} (h : free.map (fun j => D.cs[j]?) = fnames.map some) {p j : Nat} (hj : free[p]? = some j) : ∃ x, D.cs[j]? = some x ∧ fnames[p]? = some x := by
  have h1 : (free.map (fun j => D.cs[j]?))[p]? = some (D.cs[j]?) := by rw [List.getElem?_map, hj]; rfl
  rw [h, List.getElem?_map] at h1
  cases q : fnames[p]? with
  | none => rw [q] at h1; cases h1
  | some x => rw [q] at h1; injection h1 with h1; exact ⟨x, h1.symm, rfl⟩
/-- the turns -/
theorem comp_turns {A : Around} {env : Env} {fs : List (Addr × NsM)} {s₀ : Shared} {D' : Desc} {ρ : List Addr} {fr : Frm} {st : St} {s : Shared} {tg src elt : Expr} {ifs : List Expr} {scope : Scope} {pos : Pos} {t : Tgt} {me : ME} {mt : MT} {it acc : Nat} {ia aa : Addr} {fr' : Frm} {st' : St} {R : Result → Shared → Prop}
    (W : Wd X D' A env fs) (hh : D'.h = true) (O : Ok X D' env fs s₀ ρ fr st s) (ht : SoundTg X D' tg t) (hp : PlainTg tg) (htest : SoundIfs X D' ifs mt) (he : SoundE X D' elt me) (hi : ρ[it]? = some ia) (ha : ρ[acc]? = some aa)
    (e : compGo me t mt 40 it acc fr st = some (fr', st')) (h : ∀ ρ' s', Ext ρ ρ' → Ok X D' env fs s₀ ρ' fr' st' s' → R (.ok .next) s') :
    codeAny X.M A (.compLoop (.ListComp elt [⟨tg, src, ifs, 0⟩] scope pos) 0 (.ref ia) (.ref aa) env) R s := by
  refine codeAny_compLoop_tests (I := fun n s => ∃ ρ' fr1 st1, Ext ρ ρ' ∧ Ok X D' env fs s₀ ρ' fr1 st1 s ∧ compGo me t mt n it acc fr1 st1 = some (fr', st')) ?_ 40 ⟨ρ, fr, st, Ext.refl _, O, e⟩ (fun v => hp _ v)
  rintro n s' ⟨ρ3, fr3, st3, x3, O3, e3⟩
  cases n with
  | zero => cases e3
  | succ n =>
    unfold compGo at e3
    split at e3
    · cases e3
    · rename_i st4 e4
      cases e3
      exact sound_next (W.hand hh) O3 (x3.get hi) e4 (fun v v' s5 hv => by cases hv) fun _ s5 O5 => h ρ3 s5 x3 O5
    · rename_i v st4 e4
      refine sound_next (W.hand hh) O3 (x3.get hi) e4 (fun v0 v' s5 hv O5 a5 => ?_) fun hv => by cases hv
      cases hv
      split at e3
      · cases e3
      · rename_i f6 st6 e6
        refine ht W O5 a5 e6 fun ρ6 s6 x6 O6 => ?_
        split at e3
        · cases e3
        · rename_i f7 st7 e7
          refine htest W O6 e7 fun ρ7 s7 x7 O7 => ?_
          exact ⟨n, Nat.lt_succ_self n, ρ7, f7, st7, (x3.trans x6).trans x7, O7, e3⟩
        · rename_i f7 st7 e7
          refine htest W O6 e7 fun ρ7 s7 x7 O7 => ?_
          split at e3
          · cases e3
          · rename_i y f8 st8 e8
            refine he W O7 e8 fun ρ8 v8 s8 x8 O8 a8 => ?_
            split at e3
            · rename_i ys hg
              split at e3
              · rename_i hsh
                have xx := ((x3.trans x6).trans x7).trans x8
                obtain ⟨va, ⟨na, pa⟩, qa⟩ := O8.at hg (xx.get ha)
                have la : _ = va.size := qa.length.trans Array.length_toList
                have := short_le hsh
                have := line_big
                refine append_at pa (fun h' hsb hgt => ⟨n, Nat.lt_succ_self n, ρ8, f8, _, xx, O8.put (tk := s8.toks) (o' := .list (ys ++ [y])) hg (xx.get ha) (fun b ob hb eb => (hsb.2 b hb).trans eb) ⟨_, ⟨_, hgt⟩, ?_⟩, e3⟩) (by omega)
                rw [Array.toList_push]
                exact qa.append ⟨a8, trivial⟩
              · cases e3
            · cases e3
theorem comp_core {A : Around} {env : Env} {fs : List (Addr × NsM)} {s₀ : Shared} {ρ : List Addr} {fr : Frm} {st : St} {s : Shared} {tg src elt : Expr} {ifs : List Expr} {scope : Scope} {pos p' : Pos} {t : Tgt} {ms me : ME} {mt : MT} {nloc : Nat} {own : Option Str} {free : List Nat} {ns fnames : List Str}
    {v : MV} {fr' : Frm} {st' : St} {use : Option (Value → Sem Unit)} {Q : Value → Shared → Prop} {E : Value → Shared → Prop}
    (W : Wd X D A env fs) (hh : D.h = true) (O : Ok X D env fs s₀ ρ fr st s) (C : CompOk D scope ns fnames own free) (hs : SoundE X D src ms) (hf : ∀ env x, foldedSetIterable src env x = pure x)
    (ht : SoundTg X (compD D scope ns (own.toList ++ fnames)) tg t) (hp : PlainTg tg) (htest : SoundIfs X (compD D scope ns (own.toList ++ fnames)) ifs mt) (he : SoundE X (compD D scope ns (own.toList ++ fnames)) elt me)
    (e : eComp ms me t mt nloc own.isSome free fr st = some (v, fr', st'))
    (h : ∀ ρ' Ca a s', Ext ρ ρ' → Mid X D env fs s₀ ρ' fr' st' Ca s' → AbsV X.σ ρ' v (.ref a) → compPost X.M A E use Q (.ref a) Ca (.ok .next) s') :
    wpAny X.M A (comprehension (.ListComp elt [⟨tg, src, ifs, 0⟩] scope pos) scope env p' (newList []) false (eval src env) use) Q E s := by
  unfold eComp at e
  split at e
  · cases e
  · rename_i cl ecl
    have seen : ∀ {p i : Nat}, cl[p]? = some i → ∃ y a, fnames[p]? = some y ∧ ρ[i]? = some a ∧ env.cells.lookup y = some a := by
      intro p i hp
      obtain ⟨j, h1, h2⟩ := frees_get ecl hp
      obtain ⟨y, h3, h4⟩ := names_at C.sees h1
      obtain ⟨y', a, h5, h6, h7⟩ := O.cel j i h2
      rw [h3] at h5; cases h5
      exact ⟨y, a, h4, h6, h7⟩
    have hlen : cl.length = fnames.length := by
      rw [frees_len ecl]
      have := congrArg List.length C.sees
      simpa using this
    have hclo : ∀ y ∈ freeNames scope.names, ∃ a, env.cells.lookup y = some a := by
      intro y hy
      obtain ⟨p, hp⟩ := List.mem_iff_getElem?.mp (C.free2 y hy)
      have hlt : p < cl.length := by rw [hlen]; exact (List.getElem?_eq_some_iff.mp hp).1
      obtain ⟨y', a, h1, h2, h3⟩ := seen (List.getElem?_eq_getElem hlt)
      rw [hp] at h1; cases h1
      exact ⟨a, h3⟩
    have clos : ∀ {p i : Nat}, cl[p]? = some i → ∃ y a, fnames[p]? = some y ∧ ρ[i]? = some a ∧ (cloOf env scope.names []).lookup y = some a := by
      intro p i hp
      obtain ⟨y, a, h1, h2, h3⟩ := seen hp
      exact ⟨y, a, h1, h2, cloOf_lookup _ _ _ h3 (.inl (C.free1 y (mem_of_get h1)))⟩
    split at e
    · cases e
    · rename_i x f1 s1 e1
      split at e
      · cases e
      · rename_i it s2 e2
        refine wpAny_comprehension_free (g := ⟨tg, src, ifs, 0⟩) (gs := []) rfl (hf env) (closureFor_eq hclo) C.kind C.names ?_
        refine hs W O e1 fun ρ1 x' t1 x1 O1 a1 => sound_iter O1 a1 e2 fun ρ2 ia t2 x2 O2 ha => ?_
        refine wpAny_newObj_type ?_
        have O3 : Ok X D env fs s₀ (ρ2 ++ [t2.heap.objs.size]) f1 (s2.add (.list [])) { t2 with heap := t2.heap.push { cls := .type "list", data := .seq ([] : List Value).toArray } } :=
          O2.new (tk := t2.toks) (fun b ob eb => Heap.get?_push_of_some _ eb) ⟨_, ⟨0, Heap.get?_push_size _ rfl⟩, trivial⟩
        have nv : (ρ2 ++ [t2.heap.objs.size])[s2.n]? = some t2.heap.objs.size := by rw [← O2.n]; simp
        have x3 : Ext ρ2 (ρ2 ++ [t2.heap.objs.size]) := Ext.snoc _ _
        generalize ρ2 ++ [t2.heap.objs.size] = ρ3 at O3 nv x3
        generalize t2.heap.objs.size = aa at nv ⊢
        generalize t2.heap.push { cls := .type "list", data := .seq ([] : List Value).toArray } = h3 at O3 ⊢
        refine wpAny_compEnv ?_
        obtain ⟨⟨hh3, tk3, e3⟩, ⟨m, R, L⟩, Ce⟩ := O3
        have hrn := relabel_names (scope := scope) W.kind W.names
        have Wc : ∀ cells, Wd X (compD D scope ns (own.toList ++ fnames)) A { scope := relabel scope env, locals := h3.objs.size, globals := env.globals, cells := cells, qual := env.qual, func := none, code := env.code, frame := env.frame, builtins := env.builtins } ((env.locals, m) :: fs) := fun cells => by
          refine ⟨C.dok, C.kind, hrn, W.glob, W.bltn, W.room, W.unit, W.hand, ?_⟩
          obtain ⟨e0, outer, h1, h0, h2⟩ := W.frm
          refine ⟨e0, outer, h1, h0, fun e he => ⟨(h2 e he).1, ?_⟩⟩
          obtain ⟨L', h3, h4⟩ := (h2 e he).2
          refine ⟨L', h3, .inr ?_⟩
          rcases h4 with rfl | h4
          · exact List.mem_cons_self ..
          · exact List.mem_cons_of_mem _ h4
        have fin : ∀ (cells : List (Str × Addr)) (cl' : List Nat) (ρ4 : List Addr) (st4 : St) (h4 : Heap), Ext ρ3 ρ4 → X.Rel ((h3.objs.size, fun _ => none) :: (env.locals, m) :: fs) ρ4 st4 h4 →
            (∀ (j i : Nat), cl'[j]? = some i → ∃ y a, (own.toList ++ fnames)[j]? = some y ∧ ρ4[i]? = some a ∧ cells.lookup y = some a) →
            (match compGo me t mt 40 it s2.n ⟨List.replicate nloc none, cl'⟩ st4 with | none => none | some (_, s') => some (MV.ref s2.n, f1, s')) = some (v, fr', st') →
            codeAny X.M A (.compStart (.ListComp elt [⟨tg, src, ifs, 0⟩] scope pos) 0 (.ref ia) (.ref aa) { scope := relabel scope env, locals := h3.objs.size, globals := env.globals, cells := cells, qual := env.qual, func := none, code := env.code, frame := env.frame, builtins := env.builtins })
              (compPost X.M A E use Q (.ref aa) h3.objs.size) { t2 with heap := h4 } := by
          intro cells cl' ρ4 st4 h4 x4 R4 hc e4
          split at e4
          · cases e4
          · rename_i fr5 st5 e5
            cases e4
            have O4 : Ok X (compD D scope ns (own.toList ++ fnames)) { scope := relabel scope env, locals := h3.objs.size, globals := env.globals, cells := cells, qual := env.qual, func := none, code := env.code, frame := env.frame, builtins := env.builtins } ((env.locals, m) :: fs) s₀ ρ4 ⟨List.replicate nloc none, cl'⟩ st4 { t2 with heap := h4 } := by
              refine ⟨?_, ⟨fun _ => none, R4, fun i u hu => ?_⟩, hc⟩
              · have e3' : { t2 with heap := h4 } = { ({ t2 with heap := h3 } : Shared) with heap := h4 } := rfl
                rw [e3', e3]
                exact ⟨h4, tk3, rfl⟩
              · rw [List.getElem?_replicate] at hu
                split at hu <;> cases hu
            have hia : ρ4[it]? = some ia := (x3.trans x4).get ha
            have haa : ρ4[s2.n]? = some aa := x4.get nv
            have loop : codeAny X.M A (.compLoop (.ListComp elt [⟨tg, src, ifs, 0⟩] scope pos) 0 (.ref ia) (.ref aa) _) (compPost X.M A E use Q (.ref aa) h3.objs.size) { t2 with heap := h4 } :=
              comp_turns (Wc cells) hh O4 ht hp htest he hia haa e5 fun ρ6 s6 x6 O6 => by
                obtain ⟨sm, ⟨m6, R6, _⟩, _⟩ := O6
                refine h ρ6 h3.objs.size aa s6 ((((x1.trans x2).trans x3).trans x4).trans x6) ⟨m, m6, sm, R6, fun i u hu => ?_, fun j i hj => ?_⟩ ⟨aa, x6.get haa, rfl⟩
                · obtain ⟨y, w, h1, h2, h3⟩ := L i u hu
                  exact ⟨y, w, h1, h2, h3.mono (x4.trans x6)⟩
                · obtain ⟨y, a, h1, h2, h3⟩ := Ce j i hj
                  exact ⟨y, a, h1, (x4.trans x6).get h2, h3⟩
            refine codeAny_compStart_list loop ?_
            have hn : ∃ r, nextM it st4 = some r := by
              cases q : nextM it st4 with
              | none =>
                unfold compGo at e5
                rw [q] at e5
                cases e5
              | some r => exact ⟨r, rfl⟩
            obtain ⟨⟨r, st6⟩, hn⟩ := hn
            obtain ⟨o, ho, hio⟩ := nextM_iter hn
            exact sound_iterAgain (x := .none) (st0 := st4) O4 ho hio hia loop
        cases own with
        | none =>
          obtain ⟨c1, c2⟩ := cells_none C.cells (h3.objs.size + 1) (h3.push { cls := .type "dict", data := .dict #[] }) (cloOf env scope.names [])
          show codeAny X.M A (.compStart _ 0 _ _ { scope := relabel scope env, locals := h3.objs.size, globals := env.globals, cells := cellsFrom (h3.objs.size + 1) scope.names (cloOf env scope.names []), qual := env.qual, func := none, code := env.code, frame := env.frame, builtins := env.builtins }) _ { t2 with heap := pushCells (h3.push { cls := .type "dict", data := .dict #[] }) scope.names }
          rw [c1, c2]
          refine fin _ cl ρ3 _ _ (Ext.refl _) (R.pushF rfl (fun b o eb => Heap.get?_push_of_some _ eb) (Heap.Ns.new h3 _)) (fun j i hj => ?_) e
          obtain ⟨y, a, h1, h2, h3⟩ := clos hj
          exact ⟨y, a, h1, ((x1.trans x2).trans x3).get h2, h3⟩
        | some y0 =>
          obtain ⟨c1, c2⟩ := cells_one C.cells (h3.objs.size + 1) (h3.push { cls := .type "dict", data := .dict #[] }) (cloOf env scope.names [])
          show codeAny X.M A (.compStart _ 0 _ _ { scope := relabel scope env, locals := h3.objs.size, globals := env.globals, cells := cellsFrom (h3.objs.size + 1) scope.names (cloOf env scope.names []), qual := env.qual, func := none, code := env.code, frame := env.frame, builtins := env.builtins }) _ { t2 with heap := pushCells (h3.push { cls := .type "dict", data := .dict #[] }) scope.names }
          rw [c1, c2]
          have R4 := (R.pushF (h' := h3.push { cls := .type "dict", data := .dict #[] }) rfl (fun b o eb => Heap.get?_push_of_some _ eb) (Heap.Ns.new h3 _))
          have hsz : (h3.push { cls := .type "dict", data := .dict #[] }).objs.size = h3.objs.size + 1 := Heap.size_push ..
          have R5 := R4.add (o := .cell none) (h' := (h3.push { cls := .type "dict", data := .dict #[] }).push { cls := .type "cell", data := .cell none }) (fun b o eb => Heap.get?_push_of_some _ eb) ⟨_, none, Heap.get?_push_size _ rfl, rfl, trivial⟩
          rw [hsz] at R5
          have hn3 : ρ3.length = s2.n + 1 := R.len
          refine fin _ ((s2.n + 1) :: cl) (ρ3 ++ [h3.objs.size + 1]) _ _ (Ext.snoc _ _) R5 (fun j i hj => ?_) e
          cases j with
          | zero =>
            cases hj
            refine ⟨y0, h3.objs.size + 1, rfl, ?_, ?_⟩
            · rw [← hn3]; simp
            · simp
          | succ j =>
            obtain ⟨y, a, h1, h2, h3⟩ := clos (show cl[j]? = some i from hj)
            refine ⟨y, a, h1, (((x1.trans x2).trans x3).trans (Ext.snoc _ _)).get h2, ?_⟩
            rw [List.lookup_cons, beq_eq_false_iff_ne.mpr (fun q : y = y0 => C.apart y0 rfl (q ▸ mem_of_get h1))]
            exact h3
theorem sound_eComp {tg src elt : Expr} {ifs : List Expr} {scope : Scope} {pos : Pos} {t : Tgt} {ms me : ME} {mt : MT} {nloc : Nat} {own : Option Str} {free : List Nat} {ns fnames : List Str}
    (hh : D.h = true) (C : CompOk D scope ns fnames own free) (hs : SoundE X D src ms) (hf : ∀ env x, foldedSetIterable src env x = pure x)
    (ht : SoundTg X (compD D scope ns (own.toList ++ fnames)) tg t) (hp : PlainTg tg) (htest : SoundIfs X (compD D scope ns (own.toList ++ fnames)) ifs mt) (he : SoundE X (compD D scope ns (own.toList ++ fnames)) elt me) :
    SoundE X D (.ListComp elt [⟨tg, src, ifs, 0⟩] scope pos) (eComp ms me t mt nloc own.isSome free) := by
  intro A env fs s₀ ρ fr st s v fr' st' Q E W O e h
  rw [eval_ListComp]
  refine comp_core W hh O C hs hf ht hp htest he e fun ρ' Ca a s' x' M hv => ?_
  obtain ⟨m, hn⟩ := M.ns
  exact ⟨m, hn, fun h' hsb => h ρ' _ _ x' (M.out fun b o hb eb => (hsb.2 b hb).trans eb) hv⟩
/-- x = [..], x a local: the stores are exchanged -/
theorem sound_sAssignC {x : Str} {px : Pos} {i : Nat} {tg src elt : Expr} {ifs : List Expr} {scope : Scope} {pos spos : Pos} {t : Tgt} {ms me : ME} {mt : MT} {nloc : Nat} {own : Option Str} {free : List Nat} {ns fnames : List Str}
    (hh : D.h = true) (hx : D.ns[i]? = some x) (C : CompOk D scope ns fnames own free) (hs : SoundE X D src ms) (hf : ∀ env x, foldedSetIterable src env x = pure x)
    (ht : SoundTg X (compD D scope ns (own.toList ++ fnames)) tg t) (hp : PlainTg tg) (htest : SoundIfs X (compD D scope ns (own.toList ++ fnames)) ifs mt) (he : SoundE X (compD D scope ns (own.toList ++ fnames)) elt me)
    (hsw : ∀ line (env : Env), env.scope.kind = .function → env.scope.names = D.names → swapsWith (.ListComp elt [⟨tg, src, ifs, 0⟩] scope pos) (some (.Name x px)) line env = pure true) :
    SoundS X D (.Assign [.Name x px] (.ListComp elt [⟨tg, src, ifs, 0⟩] scope pos) spos) (sAssign (.loc i) (eComp ms me t mt nloc own.isSome free)) := by
  intro A env fs s₀ ρ fr st s f fr' st' Q E W O e h
  unfold sAssign at e
  split at e
  · cases e
  · rename_i y f1 s1 e1
    cases e
    rw [exec_Assign_arm]
    refine wpAny_bind (wpAny_standAt ?_)
    rw [show swapsWithSole [.Name x px] (.ListComp elt [⟨tg, src, ifs, 0⟩] scope pos) spos.line env = pure true from hsw spos.line env W.kind W.names]
    refine wpAny_bind (wpAny_pure ?_)
    rw [if_pos rfl]
    refine wpAny_bind ?_
    show wpAny X.M A (comprehension (.ListComp elt [⟨tg, src, ifs, 0⟩] scope pos) scope env _ (newList []) false (eval src env) (some (fun v => assign (.Name x px) env v)) >>= fun _ => pure ()) _ E s
    refine wpAny_bind ?_
    refine comp_core W hh O C hs hf ht hp htest he e1 fun ρ' Ca a s' x' M hv => ?_
    show wpAny X.M A (assign (.Name x px) env (.ref a)) _ E s'
    have hl := W.ok.loc x (mem_of_get hx)
    obtain ⟨m, m', _, R, _, _⟩ := id M
    have hLn := R.frs (env.locals, m) (List.mem_cons_of_mem _ (List.mem_cons_self ..))
    refine wpAny_assign_Name (wpAny_storeName_local (by show env.scope.names.lookup x = _; rw [W.names]; exact hl.1) hLn.1 (fun h' hn hsb => ?_) (by rw [W.kind]; rfl))
    have M' : Mid X D env fs s₀ ρ' ⟨f1.loc.set i (some y), f1.cel⟩ st' Ca { s' with heap := h', toks := s'.toks + 1 } := by
      refine M.store (m1 := fun m z => if z = x then some (.ref a) else m z) hsb (fun m2 hm2 => ?_) rfl fun m2 L j u hu => ?_
      · have : m2 = m := funext fun z => hm2.agree hLn.1 z
        rw [this]; exact hn
      · rw [List.getElem?_set] at hu
        split at hu
        · rename_i hij
          subst hij
          split at hu
          · cases hu
            exact ⟨x, .ref a, hx, if_pos rfl, hv⟩
          · cases hu
        · rename_i hij
          obtain ⟨z, u', h1, h2, h3⟩ := L j u hu
          refine ⟨z, u', h1, ?_, h3⟩
          show (if z = x then _ else _) = _
          rw [if_neg]; exact h2
          intro q; subst q
          obtain ⟨hi, e1⟩ := List.getElem?_eq_some_iff.mp hx
          obtain ⟨hj, e2⟩ := List.getElem?_eq_some_iff.mp h1
          exact hij ((List.getElem_inj W.ok.nd).mp (e1.trans e2.symm))
    obtain ⟨m3, hn3⟩ := M'.ns
    exact ⟨m3, hn3, fun h'' hsb' => wpAny_pure (wpAny_pure (h ρ' _ _ x' (M'.out fun b o hb eb => (hsb'.2 b hb).trans eb) rfl))⟩
end
end Mine

end
section
namespace Mine
open PySem PySem.W PyProof.Rows PySem.Calls

/-- which parameter each variable starts with -/
noncomputable def agree : List (Option Nat) → List Str → List Str → Bool
  | [], [], _ => true
  | some k :: r, x :: xs, ps => (match ps[k]? with | some y => decide (y = x) | none => false) && agree r xs ps
  | none :: r, _ :: xs, ps => agree r xs ps
  | _, _, _ => false
theorem agree_get : ∀ {l : List (Option Nat)} {xs ps : List Str}, agree l xs ps = true → ∀ {i : Nat} {o : Option Nat}, l[i]? = some o → ∃ x, xs[i]? = some x ∧ ∀ k, o = some k → ps[k]? = some x
  | [], [], _, _, _, _, h => by cases h
  | some k :: r, x :: xs, ps, e, i, o, h => by
    simp only [agree, Bool.and_eq_true] at e
    cases i with
    | zero =>
      cases h
      refine ⟨x, rfl, fun k' hk => ?_⟩
      cases hk
      have := e.1
      split at this
      · rename_i y hy
        rw [hy, of_decide_eq_true this]
      · cases this
    | succ i =>
      obtain ⟨y, h1, h2⟩ := agree_get e.2 (show r[i]? = some o from h)
      exact ⟨y, h1, h2⟩
  | none :: r, x :: xs, ps, e, i, o, h => by
    simp only [agree] at e
    cases i with
    | zero => cases h; exact ⟨x, rfl, fun k hk => by cases hk⟩
    | succ i =>
      obtain ⟨y, h1, h2⟩ := agree_get e (show r[i]? = some o from h)
      exact ⟨y, h1, h2⟩
  | [], _ :: _, _, e, _, _, _ => by cases e
  | some _ :: _, [], _, e, _, _, _ => by cases e
  | none :: _, [], _, e, _, _, _ => by cases e
theorem fillLoc_get {xs : List MV} : ∀ {l : List (Option Nat)} {loc : List (Option MV)}, fillLoc xs l = some loc → ∀ {i : Nat} {v : MV}, loc[i]? = some (some v) → ∃ k, l[i]? = some (some k) ∧ xs[k]? = some v
  | [], loc, e, i, v, h => by cases e; cases h
  | none :: r, loc, e, i, v, h => by
    unfold fillLoc at e
    split at e
    · rename_i l0 e0
      cases e
      cases i with
      | zero => cases h
      | succ i =>
        obtain ⟨k, h1, h2⟩ := fillLoc_get e0 (show l0[i]? = some (some v) from h)
        exact ⟨k, h1, h2⟩
    · cases e
  | some k :: r, loc, e, i, v, h => by
    unfold fillLoc at e
    split at e
    · rename_i v0 l0 ev e0
      cases e
      cases i with
      | zero => cases h; exact ⟨k, rfl, ev⟩
      | succ i =>
        obtain ⟨k, h1, h2⟩ := fillLoc_get e0 (show l0[i]? = some (some v) from h)
        exact ⟨k, h1, h2⟩
    · cases e
-- what the parameters become
theorem bindL_other {kindOf : Str → Option NameKind} {x : Str} : ∀ {binds : List (Str × Value)} {m : NsM}, x ∉ binds.map (·.1) → bindL kindOf binds m x = m x
  | [], _, _ => rfl
  | (n, v) :: r, m, h => by
    rw [List.map_cons, List.mem_cons, not_or] at h
    unfold bindL
    rw [bindL_other h.2]
    split
    · exact if_neg h.1
    · rfl
theorem bindL_get {kindOf : Str → Option NameKind} {x : Str} {u : Value} (hk : kindOf x = some .local) : ∀ {binds : List (Str × Value)} {m : NsM}, (binds.map (·.1)).Nodup → (x, u) ∈ binds → bindL kindOf binds m x = some u
  | (n, v) :: r, m, hn, h => by
    rw [List.map_cons, List.nodup_cons] at hn
    unfold bindL
    rcases List.mem_cons.mp h with e | h
    · cases e
      rw [bindL_other hn.1, if_pos hk]
      exact if_pos rfl
    · exact bindL_get hk hn.2 h
theorem bindC_other {kindOf : Str → Option NameKind} {x : Str} : ∀ {binds : List (Str × Value)} {m : NsM}, x ∉ binds.map (·.1) → bindC kindOf binds m x = m x
  | [], _, _ => rfl
  | (n, v) :: r, m, h => by
    rw [List.map_cons, List.mem_cons, not_or] at h
    unfold bindC
    rw [bindC_other h.2]
    split
    · rfl
    · exact if_neg h.1
theorem bindC_get {kindOf : Str → Option NameKind} {x : Str} {u : Value} (hk : ¬ kindOf x = some .local) : ∀ {binds : List (Str × Value)} {m : NsM}, (binds.map (·.1)).Nodup → (x, u) ∈ binds → bindC kindOf binds m x = some u
  | (n, v) :: r, m, hn, h => by
    rw [List.map_cons, List.nodup_cons] at hn
    unfold bindC
    rcases List.mem_cons.mp h with e | h
    · cases e
      rw [bindC_other hn.1, if_neg hk]
      exact if_pos rfl
    · exact bindC_get hk hn.2 h
theorem AbsVs.at {σ : List Int} {ρ : List Addr} {xs : List MV} {binds : List (Str × Value)} (h : AbsVs σ ρ xs (binds.map (·.2))) {k : Nat} {v : MV} {x : Str} (hv : xs[k]? = some v) (hx : (binds.map (·.1))[k]? = some x) : ∃ u, (x, u) ∈ binds ∧ AbsV σ ρ v u := by
  obtain ⟨u, h1, h2⟩ := h.get hv
  rw [List.getElem?_map] at h1 hx
  cases q : binds[k]? with
  | none => rw [q] at h1; cases h1
  | some p =>
    rw [q] at h1 hx
    cases h1; cases hx
    exact ⟨p.2, mem_of_get q, h2⟩

section
variable {prog : Program} {w : World} {cc : Cls} {σ : List Int} {t : Heap} {fs : List (Addr × NsM)} {h : Heap}
theorem addCells_sound {xs : List MV} {cs : List (Str × Addr)} {cm : Str → Option Value} (hap : cs.Pairwise fun x y => x.2 ≠ y.2) : ∀ (l : List (Option Nat)) (nl : List Str) (ρ : List Addr) (st : St) (acc : List Nat) {cel : List Nat} {st' : St}, l.length = nl.length → nl.Nodup → Rel prog w cc σ t fs ρ st h →
    (∀ x ∈ nl, ∃ c, cs.lookup x = some c ∧ h.IsCell c (cm x) ∧ t.get? c = none ∧ (∀ p ∈ fs, p.1 ≠ c) ∧ (∀ i o b, st.H.get i = some o → ρ[i]? = some b → b ≠ c) ∧ sysModules < c) →
    (∀ (p k : Nat) (x : Str), l[p]? = some (some k) → nl[p]? = some x → ∀ v, xs[k]? = some v → ∃ u, cm x = some u ∧ AbsV σ ρ v u) →
    addCells xs l st acc = some (cel, st') →
    ∃ ρ' new, Ext ρ ρ' ∧ Rel prog w cc σ t fs ρ' st' h ∧ cel = acc.reverse ++ new ∧ ∀ (j i : Nat), new[j]? = some i → ∃ x c, nl[j]? = some x ∧ ρ'[i]? = some c ∧ cs.lookup x = some c
  | [], [], ρ, st, acc, cel, st', _, _, R, _, _, e => by
    cases e
    exact ⟨ρ, [], Ext.refl ρ, R, by simp, fun j i hj => by cases hj⟩
  | o :: r, x :: nl, ρ, st, acc, cel, st', hl, hn, R, hc, hx, e => by
    rw [List.nodup_cons] at hn
    obtain ⟨c, c1, c2, c3, c4, c5, c6⟩ := hc x (List.mem_cons_self ..)
    have step : ∀ v : Option MV, (∀ y, v = some y → ∃ u, cm x = some u ∧ AbsV σ ρ y u) → addCells xs r (st.add (.cell v)) (st.n :: acc) = some (cel, st') →
        ∃ ρ' new, Ext ρ ρ' ∧ Rel prog w cc σ t fs ρ' st' h ∧ cel = acc.reverse ++ new ∧ ∀ (j i : Nat), new[j]? = some i → ∃ y c, (x :: nl)[j]? = some y ∧ ρ'[i]? = some c ∧ cs.lookup y = some c := by
      intro v hv e'
      obtain ⟨ob, ho1, ho2⟩ := c2
      have R' : Rel prog w cc σ t fs (ρ ++ [c]) (st.add (.cell v)) h := R.addAt (fun b o eb => eb) c3 c4 c5 c6 ⟨ob, cm x, ho1, ho2, by
        cases v with
        | none => trivial
        | some y =>
          obtain ⟨u, h1, h2⟩ := hv y rfl
          exact ⟨u, h1, h2.mono (Ext.snoc _ _)⟩⟩
      have hlast : (ρ ++ [c])[st.n]? = some c := by rw [← R.len]; simp
      have A1 : ∀ y ∈ nl, ∃ c', cs.lookup y = some c' ∧ h.IsCell c' (cm y) ∧ t.get? c' = none ∧ (∀ p ∈ fs, p.1 ≠ c') ∧ (∀ i o b, (st.add (.cell v)).H.get i = some o → (ρ ++ [c])[i]? = some b → b ≠ c') ∧ sysModules < c' := by
        intro y hy
        obtain ⟨c', d1, d2, d3, d4, d5, d6⟩ := hc y (List.mem_cons_of_mem _ hy)
        refine ⟨c', d1, d2, d3, d4, fun i o b hi hb => ?_, d6⟩
        rcases St.add_get hi with ⟨rfl, _⟩ | ⟨_, hi'⟩
        · rw [hlast] at hb; cases hb
          intro q
          subst q
          exact hn.1 (name_of_addr hap (mem_of_lookup c1) (mem_of_lookup d1) ▸ hy)
        · obtain ⟨b', hb', _⟩ := R.obj i o hi'
          rw [(Ext.snoc ρ c).get hb'] at hb; cases hb
          exact d5 i o _ hi' hb'
      have A2 : ∀ (p k : Nat) (y : Str), r[p]? = some (some k) → nl[p]? = some y → ∀ v, xs[k]? = some v → ∃ u, cm y = some u ∧ AbsV σ (ρ ++ [c]) v u := by
        intro p k y hp hy v hv
        obtain ⟨u, h1, h2⟩ := hx (p + 1) k y hp hy v hv
        exact ⟨u, h1, h2.mono (Ext.snoc _ _)⟩
      obtain ⟨ρ', new, x1, R1, e1, h1⟩ := addCells_sound hap r nl (ρ ++ [c]) (st.add (.cell v)) (st.n :: acc) (by simpa using hl) hn.2 R' A1 A2 e'
      refine ⟨ρ', st.n :: new, (Ext.snoc _ _).trans x1, R1, by rw [e1]; simp, fun j i hj => ?_⟩
      cases j with
      | zero => cases hj; exact ⟨x, c, rfl, x1.get hlast, c1⟩
      | succ j => exact h1 j i hj
    cases o with
    | none => exact step none (fun y hy => by cases hy) e
    | some k =>
      unfold addCells at e
      split at e
      · rename_i v hv
        exact step (some v) (fun y hy => by cases hy; exact hx 0 k x rfl rfl v hv) e
      · cases e
  | [], _ :: _, _, _, _, _, _, hl, _, _, _, _, _ => by cases hl
  | _ :: _, [], _, _, _, _, _, hl, _, _, _, _, _ => by cases hl
end

noncomputable def fnGo (locs cels : List (Option Nat)) (body : MS) (xs : List MV) (s : St) : Option (MV × St) := match fillLoc xs locs, addCells xs cels s [] with
    | some loc, some (cel, s) => (match body ⟨loc, cel⟩ s with
      | none => none
      | some (.ret v, _, s) => some (v, s)
      | some (.next, _, s) => some (.none, s)
      | some (_, _, _) => none)
    | _, _ => none
theorem fn_go {np : Nat} {locs cels : List (Option Nat)} {body : MS} {xs : List MV} {s : St} {v : MV} {s' : St} (e : fn np locs cels body xs s = some (v, s')) : xs.length = np ∧ fnGo locs cels body xs s = some (v, s') := by
  unfold fn at e
  split at e
  · cases e
  · rename_i h
    exact ⟨Nat.eq_of_beq_eq_true h, e⟩
theorem fnStar_go {np : Nat} {locs cels : List (Option Nat)} {body : MS} {xs : List MV} {s : St} {v : MV} {s' : St} (e : fnStar np locs cels body xs s = some (v, s')) : np ≤ xs.length ∧ xs.length ≤ 10000 ∧ fnGo locs cels body (xs.take np ++ [.ref s.n]) (s.add (.tup (xs.drop np))) = some (v, s') := by
  unfold fnStar at e
  split at e
  · cases e
  · rename_i h
    rw [Bool.and_eq_true] at h
    exact ⟨Nat.le_of_ble_eq_true h.1, short_le h.2, e⟩

/-- a def of the text, as it lies in the heap -/
structure FnOk (X : Cx) (f : Addr) (fd : FuncData) (body : List Stmt) (D : Desc) (ps : List Str) (locs cels : List (Option Nat)) : Prop where
  at_ : ∃ o, X.t.get? f = some o ∧ o.data = .func fd
  code : X.t.CodeRec fd.code fd.qualname
  body_ : fd.body = .stmts body
  clo : fd.closure = []
  co : fd.scope.isCoroutine = false
  gen : fd.scope.isGenerator = false
  kind : fd.scope.kind = .function
  glob : fd.globals = mainGlobals
  bltn : fd.builtins = builtinsNs
  names : fd.scope.names = D.names
  dok : DOk D
  hand : D.h = true
  psn : ps.Nodup
  psk : ∀ x ∈ ps, D.names.lookup x = some .local ∨ D.names.lookup x = some .cell
  csk : ∀ x ∈ D.cs, D.names.lookup x = some .cell
  csn : D.cs.Nodup
  locs_ : agree locs D.ns ps = true
  cels_ : agree cels D.cs ps = true
theorem agree_len : ∀ {l : List (Option Nat)} {xs ps : List Str}, agree l xs ps = true → l.length = xs.length
  | [], [], _, _ => rfl
  | some k :: r, x :: xs, ps, e => by
    simp only [agree, Bool.and_eq_true] at e
    exact congrArg (· + 1) (agree_len e.2)
  | none :: r, x :: xs, ps, e => by
    simp only [agree] at e
    exact congrArg (· + 1) (agree_len e)
  | [], _ :: _, _, e => by cases e
  | some _ :: _, [], _, e => by cases e
  | none :: _, [], _, e => by cases e
section
variable {X : Cx}
theorem fn_core {D : Desc} {A : Around} {env : Env} {fs : List (Addr × NsM)} {s₀ : Shared} {ρ : List Addr} {fr : Frm} {st : St} {s : Shared} {f : Addr} {fd : FuncData} {body : List Stmt} {Df : Desc} {ps : List Str} {locs cels : List (Option Nat)} {mb : MS}
    {args : Args} {v : MV} {st' : St} {R : Result → Shared → Prop} (G : Gd X) (F : FnOk X f fd body Df ps locs cels) (hb : SoundB X Df body mb)
    (W : Wd X D A env fs) (hd : Df.d < D.d) (hh : D.h = true)
    (O : Ok X D env fs s₀ ρ fr st s)
    (hbind : ∀ Q : List (Str × Value) → Shared → Prop, ∀ E, (∀ ρ1 xs st1 s1 binds, Ext ρ ρ1 → Ok X D env fs s₀ ρ1 fr st1 s1 → AbsVs X.σ ρ1 xs (binds.map (·.2)) → binds.map (·.1) = ps → fnGo locs cels mb xs st1 = some (v, st') → Q binds s1) → wpAny X.M A.in1 (bindArgs fd args) Q E s)
    (h : ∀ ρ' v' s', Ext ρ ρ' → Ok X D env fs s₀ ρ' fr st' s' → AbsV X.σ ρ' v v' → R (.ok (.ret v')) s') : codeAny X.M A (.call (.ref f) args) R s := by
  obtain ⟨o, ho, hdat⟩ := F.at_
  refine codeAny_call_function (by have := W.room; omega) (O.top f o ho) hdat F.co F.gen F.body_ (F.code.keeps O.top) ?_
  refine hbind _ _ fun ρ1 xs st1 s1 binds x1 O1 ax hps e => ?_
  have hkind : ∀ n, ∀ x ∈ binds, fd.scope.names.lookup x.1 = some .local ∨ (fd.scope.names.lookup x.1 = some .cell ∧ ((cellsFrom n fd.scope.names []).lookup x.1).isSome = true) := by
    intro n x hx
    rw [F.names]
    have hxp : x.1 ∈ ps := hps ▸ List.mem_map.mpr ⟨x, hx, rfl⟩
    rcases F.psk x.1 hxp with q | q
    · exact .inl q
    · exact .inr ⟨q, cellsFrom_some _ _ _ (.inl q)⟩
  rw [F.clo]
  refine wpAny_newFunctionEnv_cells F.kind (hkind _) fun env' he s2 x => ?_
  subst he
  refine ⟨(G.nolimit.keeps O1.top).keeps x.toInCall.keep, codeAny_func ?_⟩
  unfold fnGo at e
  split at e
  · rename_i loc cel st2 el ec
    obtain ⟨hsame, ⟨m, R1, L1⟩, C1⟩ := O1
    have fr1 := R1.fresh
    have R2 := R1.pushF (C := s1.heap.objs.size) (h' := s2.heap) rfl x.toInCall.keep x.toInCall.ns
    have A1 : ∀ y ∈ Df.cs, ∃ c, (cellsFrom (s1.heap.objs.size + 1) fd.scope.names []).lookup y = some c ∧ s2.heap.IsCell c (bindC (newEnv fd.scope s1.heap.objs.size fd.globals (cellsFrom (s1.heap.objs.size + 1) fd.scope.names []) (fd.qualname ++ ".<locals>.") (some f) fd.code none fd.builtins).kindOf binds (fun _ => none) y) ∧ X.t.get? c = none ∧
        (∀ p ∈ (s1.heap.objs.size, bindL (newEnv fd.scope s1.heap.objs.size fd.globals (cellsFrom (s1.heap.objs.size + 1) fd.scope.names []) (fd.qualname ++ ".<locals>.") (some f) fd.code none fd.builtins).kindOf binds (fun _ => none)) :: (env.locals, m) :: fs, p.1 ≠ c) ∧ (∀ i o b, st1.H.get i = some o → ρ1[i]? = some b → b ≠ c) ∧ sysModules < c := by
      intro y hy
      obtain ⟨c, hc⟩ := Option.isSome_iff_exists.mp (cellsFrom_some fd.scope.names (s1.heap.objs.size + 1) [] (.inl (F.names ▸ F.csk y hy)))
      have hab : s1.heap.objs.size < c := x.above y c (mem_of_lookup hc)
      refine ⟨c, hc, x.cell y c hc, ?_, fun p hp => ?_, fun i o b hi hb => ?_, Nat.lt_trans fr1.2.2.2 hab⟩
      · cases q : X.t.get? c with
        | none => rfl
        | some o => exact absurd (Nat.lt_trans hab (Heap.lt_size (R1.top c o q))) (Nat.lt_irrefl _)
      · rcases List.mem_cons.mp hp with rfl | hp
        · exact Nat.ne_of_lt hab
        · exact Nat.ne_of_lt (Nat.lt_trans (R1.frs p hp).1.lt hab)
      · obtain ⟨ob, eb⟩ := (R1.at hi hb).ex
        exact Nat.ne_of_lt (Nat.lt_trans (Heap.lt_size eb) hab)
    have pst : ∀ {k : Nat} {y : Str} {v : MV}, ps[k]? = some y → xs[k]? = some v → ∃ u, (y, u) ∈ binds ∧ AbsV X.σ ρ1 v u := fun hk hv => ax.at hv (by rw [hps]; exact hk)
    have hnb : (binds.map (·.1)).Nodup := hps ▸ F.psn
    have A2 : ∀ (p k : Nat) (y : Str), cels[p]? = some (some k) → Df.cs[p]? = some y → ∀ v, xs[k]? = some v → ∃ u, bindC (newEnv fd.scope s1.heap.objs.size fd.globals (cellsFrom (s1.heap.objs.size + 1) fd.scope.names []) (fd.qualname ++ ".<locals>.") (some f) fd.code none fd.builtins).kindOf binds (fun _ => none) y = some u ∧ AbsV X.σ ρ1 v u := by
      intro p k y hp hy v hv
      obtain ⟨y', h1, h2⟩ := agree_get F.cels_ hp
      rw [hy] at h1; cases h1
      obtain ⟨u, h3, h4⟩ := pst (h2 k rfl) hv
      refine ⟨u, bindC_get (fun q => ?_) hnb h3, h4⟩
      have q' : fd.scope.names.lookup y = some .local := q
      rw [F.names, F.csk y (mem_of_get hy)] at q'
      cases q'
    obtain ⟨ρ2, new, x2, R3, e3, h3⟩ := addCells_sound x.apart cels Df.cs ρ1 st1 [] (agree_len F.cels_) F.csn R2 A1 A2 ec
    have e3' : cel = new := by simpa using e3
    subst e3'
    have O3 : Ok X Df (newEnv fd.scope s1.heap.objs.size fd.globals (cellsFrom (s1.heap.objs.size + 1) fd.scope.names []) (fd.qualname ++ ".<locals>.") (some f) fd.code none fd.builtins) ((env.locals, m) :: fs) s₀ ρ2 ⟨loc, cel⟩ st2 s2 := by
      refine ⟨?_, ⟨_, R3, fun i u hu => ?_⟩, h3⟩
      · obtain ⟨h1, tk1, q1⟩ := hsame
        obtain ⟨h2, tk2, q2⟩ := x.toInCall.same
        exact ⟨h2, tk2, by rw [q2, q1]⟩
      · obtain ⟨k, h1, h2⟩ := fillLoc_get el hu
        obtain ⟨y, h4, h5⟩ := agree_get F.locs_ h1
        obtain ⟨u', h6, h7⟩ := pst (h5 k rfl) h2
        exact ⟨y, u', h4, bindL_get (show fd.scope.names.lookup y = some .local by rw [F.names]; exact (F.dok.loc y (mem_of_get h4)).1) hnb h6, h7.mono x2⟩
    have W3 : Wd X Df (A.deeper (newEnv fd.scope s1.heap.objs.size fd.globals (cellsFrom (s1.heap.objs.size + 1) fd.scope.names []) (fd.qualname ++ ".<locals>.") (some f) fd.code none fd.builtins)) (newEnv fd.scope s1.heap.objs.size fd.globals (cellsFrom (s1.heap.objs.size + 1) fd.scope.names []) (fd.qualname ++ ".<locals>.") (some f) fd.code none fd.builtins) ((env.locals, m) :: fs) := by
      refine ⟨F.dok, F.kind, F.names, F.glob, F.bltn, ?_, ?_, fun _ => W.hand hh, ?_⟩
      · have := W.room
        show A.depth + 1 + Df.d < recursionLimit
        omega
      · have := W.unit
        show A.units + 3 + 10 * Df.d + 200 < cLine
        omega
      · obtain ⟨e0, outer, h1, h0, h2⟩ := W.frm
        refine ⟨_, _, Around.frames_deeper h1, rfl, fun e' he' => ?_⟩
        rcases List.mem_cons.mp he' with rfl | he'
        · exact ⟨by rw [show (newEnv fd.scope s1.heap.objs.size fd.globals (cellsFrom (s1.heap.objs.size + 1) fd.scope.names []) (fd.qualname ++ ".<locals>.") (some f) fd.code none fd.builtins).scope.kind = .function from F.kind]; decide, _, rfl, .inl rfl⟩
        · refine ⟨(h2 e' he').1, ?_⟩
          obtain ⟨L', h5, h4⟩ := (h2 e' he').2
          refine ⟨L', h5, .inr ?_⟩
          rcases h4 with rfl | h4
          · exact List.mem_cons_self ..
          · exact List.mem_cons_of_mem _ h4
    have out : ∀ {ρ3 fr3 st3 s3}, Ext ρ2 ρ3 → Ok X Df (newEnv fd.scope s1.heap.objs.size fd.globals (cellsFrom (s1.heap.objs.size + 1) fd.scope.names []) (fd.qualname ++ ".<locals>.") (some f) fd.code none fd.builtins) ((env.locals, m) :: fs) s₀ ρ3 fr3 st3 s3 → Ok X D env fs s₀ ρ3 fr st3 s3 := by
      intro ρ3 fr3 st3 s3 x3 O4
      obtain ⟨sm, ⟨m4, R4, _⟩, _⟩ := O4
      refine ⟨sm, ⟨m, R4.popF fun b o _ eb => eb, fun i u hu => ?_⟩, fun j i hj => ?_⟩
      · obtain ⟨y, w, h1, h2, h3⟩ := L1 i u hu
        exact ⟨y, w, h1, h2, h3.mono (x2.trans x3)⟩
      · obtain ⟨y, a, h1, h2, h3⟩ := C1 j i hj
        exact ⟨y, a, h1, (x2.trans x3).get h2, h3⟩
    split at e
    · cases e
    · rename_i eb
      cases e
      refine hb W3 O3 eb fun ρ3 g s3 x3 O4 a3 => ?_
      obtain ⟨u, rfl, au⟩ := a3
      exact h ρ3 u s3 ((x1.trans x2).trans x3) (out x3 O4) au
    · rename_i eb
      cases e
      refine hb W3 O3 eb fun ρ3 g s3 x3 O4 a3 => ?_
      cases a3
      exact h ρ3 .none s3 ((x1.trans x2).trans x3) (out x3 O4) rfl
    · cases e
  · cases e
end
end Mine

end
section
namespace Mine
open PySem PySem.W PyProof.Rows PySem.Calls

section
variable {X : Cx}
theorem zip_fst {α β : Type} : ∀ {l : List α} {k : List β}, l.length = k.length → (l.zip k).map (·.1) = l
  | [], [], _ => rfl
  | a :: l, b :: k, h => congrArg (a :: ·) (zip_fst (by simpa using h))
  | [], _ :: _, h => by cases h
  | _ :: _, [], h => by cases h
theorem zip_snd {α β : Type} : ∀ {l : List α} {k : List β}, l.length = k.length → (l.zip k).map (·.2) = k
  | [], [], _ => rfl
  | a :: l, b :: k, h => congrArg (b :: ·) (zip_snd (by simpa using h))
  | [], _ :: _, h => by cases h
  | _ :: _, [], h => by cases h
/-- a plain def -/
theorem sound_fn {f : Addr} {fd : FuncData} {body : List Stmt} {Df : Desc} {ps : List Str} {locs cels : List (Option Nat)} {mb : MS} {np : Nat} (G : Gd X) (F : FnOk X f fd body Df ps locs cels) (hb : SoundB X Df body mb) (hn : np = ps.length)
    (hbind : ∀ vs : List Value, vs.length = ps.length → bindArgs fd ⟨vs, []⟩ = pure (ps.zip vs)) : SoundF X Df.d (.ref f) (fn np locs cels mb) := by
  intro D A env fs s₀ ρ fr st s xs vs v st' Q E W hd hh O a e h
  obtain ⟨hl, e'⟩ := fn_go e
  have hlv : ps.length = vs.length := by rw [← hn, ← hl, a.length]
  refine wpAny_call (fn_core G F hb W hd (hh rfl) O (fun Q' E' h' => ?_) fun ρ' v' s' x' O' a' => h ρ' v' s' x' O' a')
  rw [hbind vs hlv.symm]
  exact wpAny_pure (h' ρ xs st s (ps.zip vs) (Ext.refl ρ) O (by rw [zip_snd hlv]; exact a) (zip_fst hlv) e')
theorem AbsVs.take {σ : List Int} {ρ : List Addr} : ∀ {m : List MV} {v : List Value}, AbsVs σ ρ m v → ∀ n : Nat, AbsVs σ ρ (m.take n) (v.take n)
  | [], [], _, n => by simp [AbsVs]
  | _ :: _, _ :: _, ⟨a, b⟩, 0 => trivial
  | _ :: _, _ :: _, ⟨a, b⟩, n + 1 => ⟨a, AbsVs.take b n⟩
  | [], _ :: _, h, _ => h.elim
  | _ :: _, [], h, _ => h.elim
theorem AbsVs.drop {σ : List Int} {ρ : List Addr} : ∀ {m : List MV} {v : List Value}, AbsVs σ ρ m v → ∀ n : Nat, AbsVs σ ρ (m.drop n) (v.drop n)
  | [], [], _, n => by simp [AbsVs]
  | _ :: _, _ :: _, h, 0 => h
  | _ :: _, _ :: _, ⟨a, b⟩, n + 1 => AbsVs.drop b n
  | [], _ :: _, h, _ => h.elim
  | _ :: _, [], h, _ => h.elim
/-- def f(a, .., *rest) -/
theorem sound_fnStar {f : Addr} {fd : FuncData} {body : List Stmt} {Df : Desc} {ps : List Str} {vn : Str} {locs cels : List (Option Nat)} {mb : MS} {np : Nat} (G : Gd X) (F : FnOk X f fd body Df (ps ++ [vn]) locs cels) (hb : SoundB X Df body mb) (hn : np = ps.length)
    (hbind : ∀ vs : List Value, ps.length ≤ vs.length → bindArgs fd ⟨vs, []⟩ = (newTuple (vs.drop ps.length) >>= fun t => pure (ps.zip (vs.take ps.length) ++ [(vn, t)]))) : SoundF X Df.d (.ref f) (fnStar np locs cels mb) := by
  intro D A env fs s₀ ρ fr st s xs vs v st' Q E W hd hh O a e h
  obtain ⟨hl, hs, e'⟩ := fnStar_go e
  have hlx := a.length
  have hlv : ps.length ≤ vs.length := by omega
  have hz : ps.length = (vs.take ps.length).length := by rw [List.length_take]; omega
  refine wpAny_call (fn_core G F hb W hd (hh rfl) O (fun Q' E' h' => ?_) fun ρ' v' s' x' O' a' => h ρ' v' s' x' O' a')
  rw [hbind vs hlv]
  have := line_big
  refine wpAny_bind (wpAny_newTuple (wpAny_pure ?_) (by rw [List.length_drop]; omega))
  have O1 : Ok X D env fs s₀ (ρ ++ [s.heap.objs.size]) fr (st.add (.tup (xs.drop np))) { s with heap := s.heap.push { cls := .type "tuple", data := .seq (vs.drop ps.length).toArray } } :=
    O.new (tk := s.toks) (fun b ob eb => Heap.get?_push_of_some _ eb) ⟨_, ⟨0, Heap.get?_push_size _ rfl⟩, (hn ▸ (a.mono (Ext.snoc ρ _)).drop np)⟩
  refine h' _ _ _ _ _ (Ext.snoc ρ _) O1 ?_ ?_ e'
  · rw [List.map_append, zip_snd hz]
    exact ((hn ▸ (a.mono (Ext.snoc ρ _)).take np : AbsVs X.σ _ (xs.take np) (vs.take ps.length))).append ⟨O.newV _, trivial⟩
  · rw [List.map_append, zip_fst hz]; rfl
end
end Mine

end
section
namespace Mine
open PySem PySem.W PyProof.Rows PySem.Calls

noncomputable def selfName : Nat → Str
  | 0 => "_node2info"
  | 1 => "_ready_nodes"
  | 2 => "_npassedout"
  | _ => "_nfinished"
noncomputable def nodeName : Nat → Str
  | 0 => "node"
  | 1 => "npredecessors"
  | _ => "successors"
/-- what the two classes say -/
structure ClsOk (X : Cx) : Prop where
  tga : findIn X.K (.ref X.cc.T) "__getattribute__" = some (some (.builtin "object.__getattribute__"))
  tgt : findIn X.K (.ref X.cc.T) "__getattr__" = some none
  town : ∀ q < 4, findIn X.K (.ref X.cc.T) (selfName q) = some none
  tcls : ∃ cd, clsIn X.K X.cc.T = some cd ∧ cd.hasDict = true
  tsa : findIn X.K (.ref X.cc.T) "__setattr__" = some (some (.builtin "object.__setattr__"))
  tpo : plainOver X.K X.cc.T = true
  tmk : makesIn X.K X.cc.T = true
  nga : findIn X.K (.ref X.cc.N) "__getattribute__" = some (some (.builtin "object.__getattribute__"))
  ngt : findIn X.K (.ref X.cc.N) "__getattr__" = some none
  nsa : findIn X.K (.ref X.cc.N) "__setattr__" = some (some (.builtin "object.__setattr__"))
  npo : plainOver X.K X.cc.N = true
  nmk : makesIn X.K X.cc.N = true
  nfind : ∀ q < 3, ∃ p, slotIn X.K p X.cc.N = some q ∧ takerIn X.K X.cc.N (nodeName q) = some (some (.ref p)) ∧ typeIn X.K (.ref p) = some (.type "member_descriptor") ∧ ∀ od, findObj X.K X.cc.N od (nodeName q) = some (.bind (.builtin "member_descriptor.__get__") (.ref p))

theorem lookIn_ns {h : Heap} {a : Addr} {o : Obj} {m : NsM} (hn : h.Ns a m) (ho : h.get? a = some o) (name : Str) : lookIn name o = some (m name) := by
  obtain ⟨o', es, ep, ho', hd, hs, hf⟩ := hn
  rw [ho] at ho'; cases ho'
  unfold lookIn
  rw [hd]
  have hany : es.toList.any (·.refKey) = false := by
    rw [Array.any_toList, Array.any_eq_false']; intro e he; obtain ⟨n, t, h⟩ := hs e he; simp [DictEntry.refKey, h]
  have := hf name
  unfold nsFind findBy at this
  simp only [hany, Bool.false_eq_true, if_false]
  rw [← this, ← Array.find?_toList]
  cases es.toList.find? (fun e => e.key.isStr name) <;> rfl
theorem handed_of {σ : List Int} {ρ : List Addr} {r : Option MV} {x : MV} (e : plainV r = some x) : r = some x ∧ ∀ {v : Value}, AbsV σ ρ x v → handedIn v = true := by
  unfold plainV at e
  split at e
  · cases e
  · rename_i hne
    subst e
    refine ⟨rfl, fun {v} a => ?_⟩
    cases x with
    | none => cases a; rfl
    | bool b => cases a; rfl
    | int z => obtain ⟨t, rfl⟩ := a; rfl
    | ref i => obtain ⟨b, _, rfl⟩ := a; rfl
    | val u => exact (hne u rfl).elim
noncomputable def AbsI (σ : List Int) (ρ : List Addr) (x0 x1 x2 x3 : Option MV) (m : NsM) : Prop := AbsOp σ ρ x0 (m "_node2info") ∧ AbsOp σ ρ x1 (m "_ready_nodes") ∧ AbsOp σ ρ x2 (m "_npassedout") ∧ AbsOp σ ρ x3 (m "_nfinished")
theorem attrI_abs {q : Nat} {o : MO} {v : MV} (e : attrI q o = some v) : q < 4 ∧ ∃ x0 x1 x2 x3, o = .idict x0 x1 x2 x3 ∧ ∀ {σ : List Int} {ρ : List Addr} {m : NsM}, AbsI σ ρ x0 x1 x2 x3 m → ∃ u, m (selfName q) = some u ∧ AbsV σ ρ v u := by
  unfold attrI at e
  split at e
  · subst e; exact ⟨by omega, _, _, _, _, rfl, fun h => h.1⟩
  · subst e; exact ⟨by omega, _, _, _, _, rfl, fun h => h.2.1⟩
  · subst e; exact ⟨by omega, _, _, _, _, rfl, fun h => h.2.2.1⟩
  · subst e; exact ⟨by omega, _, _, _, _, rfl, fun h => h.2.2.2⟩
  · cases e
theorem opNe {σ : List Int} {ρ : List Addr} {x : Option MV} {m : NsM} {n k : Str} {u : Value} (hn : n ≠ k) (h : AbsOp σ ρ x (m n)) : AbsOp σ ρ x ((fun z => if z = k then some u else m z) n) := by
  show AbsOp σ ρ x (if n = k then some u else m n)
  rw [if_neg hn]; exact h
theorem putI_abs {q : Nat} {o o' : MO} {v : MV} (e : putI q v o = some o') : q < 4 ∧ ∃ x0 x1 x2 x3 y0 y1 y2 y3, o = .idict x0 x1 x2 x3 ∧ o' = .idict y0 y1 y2 y3 ∧
    ∀ {σ : List Int} {ρ : List Addr} {m : NsM} {u : Value}, AbsI σ ρ x0 x1 x2 x3 m → AbsV σ ρ v u → AbsI σ ρ y0 y1 y2 y3 (fun x => if x = selfName q then some u else m x) := by
  unfold putI at e
  split at e
  · cases e
    exact ⟨by omega, _, _, _, _, _, _, _, _, rfl, rfl, fun h a => ⟨⟨_, if_pos rfl, a⟩, opNe (by decide) h.2.1, opNe (by decide) h.2.2.1, opNe (by decide) h.2.2.2⟩⟩
  · cases e
    exact ⟨by omega, _, _, _, _, _, _, _, _, rfl, rfl, fun h a => ⟨opNe (by decide) h.1, ⟨_, if_pos rfl, a⟩, opNe (by decide) h.2.2.1, opNe (by decide) h.2.2.2⟩⟩
  · cases e
    exact ⟨by omega, _, _, _, _, _, _, _, _, rfl, rfl, fun h a => ⟨opNe (by decide) h.1, opNe (by decide) h.2.1, ⟨_, if_pos rfl, a⟩, opNe (by decide) h.2.2.2⟩⟩
  · cases e
    exact ⟨by omega, _, _, _, _, _, _, _, _, rfl, rfl, fun h a => ⟨opNe (by decide) h.1, opNe (by decide) h.2.1, opNe (by decide) h.2.2.1, ⟨_, if_pos rfl, a⟩⟩⟩
  · cases e
theorem selfName_in {q : Nat} (h : q < 4) : selfName q ∈ selfNames := by
  match q, h with
  | 0, _ => exact .head _
  | 1, _ => exact .tail _ (.head _)
  | 2, _ => exact .tail _ (.tail _ (.head _))
  | 3, _ => exact .tail _ (.tail _ (.tail _ (.head _)))
section
variable {X : Cx} {D : Desc}
theorem Ok.inst {env : Env} {fs : List (Addr × NsM)} {s₀ : Shared} {ρ : List Addr} {fr : Frm} {st : St} {s : Shared} (O : Ok X D env fs s₀ ρ fr st s) {i d : Nat} {a : Addr} {x0 x1 x2 x3 : Option MV} (hi : st.H.get i = some (.inst d)) (hd : st.H.get d = some (.idict x0 x1 x2 x3)) (ha : ρ[i]? = some a) :
    ∃ da od m, ρ[d]? = some da ∧ s.heap.get? a = some (instObj X.cc.T da) ∧ s.heap.get? da = some od ∧ s.heap.Ns1 da m ∧ Within m selfNames ∧ AbsI X.σ ρ x0 x1 x2 x3 m ∧ InstAt s.heap a (instObj X.cc.T da) X.cc.T (some od) := by
  obtain ⟨da, h1, h2⟩ := O.at hi ha
  obtain ⟨m, h3, h4, h5⟩ := O.at hd h1
  obtain ⟨od, es, ep, h6, _⟩ := id h3
  exact ⟨da, od, m, h1, h2, h6, h3, h4, h5, ⟨h2, rfl, rfl, h6⟩⟩
theorem findObj_own {K : Frag} {C : Addr} {od : Obj} {name : Str} {cd : ClassData} {v : Value} (hc : clsIn K C = some cd) (hd : cd.hasDict = true) (hf : findIn K (.ref C) name = some none) (hl : lookIn name od = some (some v)) : findObj K C (some od) name = some (.value v) := by
  unfold findObj PySem.W.ownOf
  rw [hc, hf]
  simp only [Option.bind_some, hd, if_true, hl]
theorem sound_getI {A : Around} {env : Env} {fs : List (Addr × NsM)} {s₀ : Shared} {ρ : List Addr} {fr : Frm} {st : St} {s : Shared} {x v : MV} {x' : Value} {q : Nat} {b : Bool} {Q : Value → Shared → Prop} {E : Value → Shared → Prop} (G : Gd X) (C : ClsOk X)
    (O : Ok X D env fs s₀ ρ fr st s) (hx : AbsV X.σ ρ x x') (e : getI q x st = some v) (h : ∀ v' s', Ok X D env fs s₀ ρ fr st s' → AbsV X.σ ρ v v' → Q v' s') : wpAny X.M A (getAttr x' (selfName q) b) Q E s := by
  unfold getI at e
  split at e
  · rename_i i
    obtain ⟨a, ha, rfl⟩ := hx
    split at e
    · rename_i d hi
      split at e
      · rename_i o hd
        obtain ⟨e', hnd⟩ := handed_of (σ := X.σ) (ρ := ρ) e
        obtain ⟨hq, x0, x1, x2, x3, rfl, hab⟩ := attrI_abs e'
        obtain ⟨da, od, m, h1, h2, h3, h4, h5, h6, I⟩ := O.inst hi hd ha
        obtain ⟨u, hu, au⟩ := hab h6
        obtain ⟨cd, hc, hdc⟩ := C.tcls
        exact get_value (G.k.keeps O.top) I C.tga (findObj_own hc hdc (C.town q hq) (by rw [lookIn_ns h4.ns h3, hu])) (hnd au) (h u _ O.tok au)
      · cases e
    · cases e
  · cases e
theorem sound_setI {A : Around} {env : Env} {fs : List (Addr × NsM)} {s₀ : Shared} {ρ : List Addr} {fr : Frm} {st st' : St} {s : Shared} {x v : MV} {x' v' : Value} {q : Nat} {Q : Unit → Shared → Prop} {E : Value → Shared → Prop} (G : Gd X) (C : ClsOk X)
    (O : Ok X D env fs s₀ ρ fr st s) (hx : AbsV X.σ ρ x x') (hv : AbsV X.σ ρ v v') (e : setI q x v st = some st') (h : ∀ s', Ok X D env fs s₀ ρ fr st' s' → Q () s') : wpAny X.M A (setAttr x' (selfName q) v') Q E s := by
  unfold setI at e
  split at e
  · rename_i i
    obtain ⟨a, ha, rfl⟩ := hx
    split at e
    · rename_i d hi
      split at e
      · rename_i o hd
        split at e
        · rename_i o' eo
          cases e
          obtain ⟨hq, x0, x1, x2, x3, y0, y1, y2, y3, rfl, rfl, hab⟩ := putI_abs eo
          obtain ⟨da, od, m, h1, h2, h3, h4, h5, h6, I⟩ := O.inst hi hd ha
          obtain ⟨cd, hc, hdc⟩ := C.tcls
          have hK := G.k.keeps O.top
          refine set_plain hK I C.tsa ?_
          refine osa_open (s := { s with toks := s.toks + 1 }) hK I C.tpo (r := none) (by unfold takerIn; rw [C.town q hq]; rfl) fun b => ?_
          refine wpAny_bind (wpAny_pure (wpAny_bind (wpAny_bind (wpAny_loadPart h2 (wpAny_bind (Looks.here (s := { s with toks := s.toks + 1 }) (looks_clsIn hK hc) ?_))))))
          rw [hdc]
          refine wpAny_pure (a := some da) (wpAny_bind (wpAny_pure (wpAny_bind ?_)))
          refine wpAny_nsSet1 (s := { s with toks := s.toks + 1 }) h4 fun h' hn hs => ?_
          have hw : Within (fun z => if z = selfName q then some v' else m z) selfNames := fun z hz => by
            by_cases hzq : z = selfName q
            · rw [hzq]; exact selfName_in hq
            · exact h5 z (by simpa [hzq] using hz)
          obtain ⟨o2, es, ep, g1, g2, g3⟩ := hn.count hw
          have := line_big
          refine wpAny_bind (wpAny_lookBehind g1 (by rw [g2]; exact pastItsLine_dict (Nat.le_trans g3 (by show 4 ≤ _; omega))) ?_)
          exact wpAny_pure (h _ (O.put (tk := s.toks + 1 + 1) hd h1 (fun b ob hb eb => (hs.2 b hb).trans eb) ⟨_, hn, hw, hab h6 hv⟩))
        · cases e
      · cases e
    · cases e
  · cases e
end
end Mine

end
section
namespace Mine
open PySem PySem.W PyProof.Rows PySem.Calls

-- a heap's other objects, as a ledger
noncomputable def others (h : Heap) (x L : Addr) : List (Addr × Obj) := (List.range h.objs.size).filterMap fun b => if b = x ∨ b = L then none else (h.get? b).map (b, ·)
theorem others_mem {h : Heap} {x L b : Addr} {o : Obj} : (b, o) ∈ others h x L ↔ b ≠ x ∧ b ≠ L ∧ h.get? b = some o := by
  unfold others
  rw [List.mem_filterMap]
  constructor
  · rintro ⟨c, hc, e⟩
    split at e
    · cases e
    · rename_i hne
      obtain ⟨o', ho', e'⟩ := Option.map_eq_some_iff.mp e
      cases e'
      exact ⟨fun q => hne (.inl q), fun q => hne (.inr q), ho'⟩
  · rintro ⟨h1, h2, h3⟩
    refine ⟨b, List.mem_range.mpr (Heap.lt_size h3), ?_⟩
    rw [if_neg (by rintro (q | q); exact h1 q; exact h2 q), h3]; rfl
noncomputable def noHeap : Heap := { objs := #[] }
theorem noHeap_none (b : Addr) : noHeap.get? b = none := by
  cases q : noHeap.get? b with
  | none => rfl
  | some o => exact absurd (Heap.lt_size q) (Nat.not_lt_zero _)
theorem fr_all {h : Heap} {L : Addr} {m : NsM} (hn : h.Ns L m) : Fr noHeap L h m := ⟨hn, fun b o e => (by rw [noHeap_none] at e; cases e), Nat.zero_le _⟩
theorem news_all {h : Heap} {x L : Addr} {o : Obj} (ho : h.get? x = some o) (hne : x ≠ L) : News noHeap L h ([] ++ (x, o) :: others h x L) := by
  intro p hp
  rcases List.mem_cons.mp hp with rfl | hp
  · exact ⟨ho, hne, noHeap_none _⟩
  · obtain ⟨h1, h2, h3⟩ := others_mem.mp hp
    exact ⟨h3, h2, noHeap_none _⟩
theorem others_keep {h h' : Heap} {x L : Addr} {o' : Obj} (N : News noHeap L h' ([] ++ (x, o') :: others h x L)) : h'.get? x = some o' ∧ ∀ b ob, b ≠ x → b ≠ L → h.get? b = some ob → h'.get? b = some ob :=
  ⟨(N (x, o') (List.mem_cons_self ..)).1, fun b ob h1 h2 e => (N (b, ob) (List.mem_cons_of_mem _ (others_mem.mpr ⟨h1, h2, e⟩))).1⟩

section
variable {prog : Program} {w : World} {cc : Cls} {σ : List Int} {t : Heap} {fs : List (Addr × NsM)} {ρ : List Addr} {st : St} {h h' : Heap}
/-- one own object becomes another; the innermost frame's object may change, its names do not -/
theorem Rel.putL {L : Addr} {m : NsM} (R : Rel prog w cc σ t ((L, m) :: fs) ρ st h) {i : Nat} {o o' : MO} {a : Addr} (hi : st.H.get i = some o) (ha : ρ[i]? = some a)
    (k : ∀ b ob, b ≠ a → b ≠ L → h.get? b = some ob → h'.get? b = some ob) (hL : h'.Ns L m) (hn : AbsH prog w cc σ ρ h' a o') : Rel prog w cc σ t ((L, m) :: fs) ρ (st.put i o') h' := by
  obtain ⟨a', ha', _, hoff, hfr, hlo⟩ := R.obj i o hi
  rw [ha] at ha'; cases ha'
  have hLt := (R.frs _ (List.mem_cons_self ..)).2
  have hnd := R.fnd
  rw [List.map_cons, List.nodup_cons] at hnd
  refine ⟨fun b ob e => k b ob (fun z => ?_) (fun z => ?_) (R.top b ob e), fun p hp => ?_, R.fnd, R.len, fun j oj e => ?_, R.nl, fun j l oj ol b ej el hj hl => ?_, R.scr⟩
  · rw [z, hoff] at e; cases e
  · rw [z] at e; rw [hLt] at e; cases e
  · rcases List.mem_cons.mp hp with rfl | hp'
    · exact ⟨hL, hLt⟩
    · exact ⟨(R.frs p hp).1.at' fun ob e => k _ ob (hfr p hp) (fun z => hnd.1 (List.mem_map.mpr ⟨p, hp', z⟩)) e, (R.frs p hp).2⟩
  · rcases St.put_get e with ⟨rfl, rfl⟩ | ⟨hne, e'⟩
    · exact ⟨a, ha, hn, hoff, hfr, hlo⟩
    · obtain ⟨b, hb, hA, r⟩ := R.obj j oj e'
      refine ⟨b, hb, hA.at fun ob eb => k b ob (fun z => ?_) (fun z => ?_) eb, r⟩
      · exact hne (R.inj j i oj o a e' hi (z ▸ hb) ha)
      · exact r.2.1 (L, m) (List.mem_cons_self ..) z.symm
  · have hj' : ∃ oj', st.H.get j = some oj' := by
      rcases St.put_get ej with ⟨rfl, _⟩ | ⟨_, e'⟩
      · exact ⟨_, hi⟩
      · exact ⟨_, e'⟩
    have hl' : ∃ ol', st.H.get l = some ol' := by
      rcases St.put_get el with ⟨rfl, _⟩ | ⟨_, e'⟩
      · exact ⟨_, hi⟩
      · exact ⟨_, e'⟩
    obtain ⟨_, ej'⟩ := hj'
    obtain ⟨_, el'⟩ := hl'
    exact R.inj j l _ _ b ej' el' hj hl
end
noncomputable def AbsN (σ : List Int) (ρ : List Addr) (x0 x1 x2 : Option MV) (sl : Array (Option Value)) : Prop := AbsOp σ ρ x0 (sl[0]?).join ∧ AbsOp σ ρ x1 (sl[1]?).join ∧ AbsOp σ ρ x2 (sl[2]?).join
theorem attrN_abs {q d : Nat} {a b c : Option MV} {v : MV} (e : attrN q (.node d a b c) = some v) : q < 3 ∧ ∀ {σ : List Int} {ρ : List Addr} {sl : Array (Option Value)}, AbsN σ ρ a b c sl → ∃ u, (sl[q]?).join = some u ∧ AbsV σ ρ v u := by
  unfold attrN at e
  split at e
  · rename_i heq; cases heq; subst e; exact ⟨by omega, fun h => h.1⟩
  · rename_i heq; cases heq; subst e; exact ⟨by omega, fun h => h.2.1⟩
  · rename_i heq; cases heq; subst e; exact ⟨by omega, fun h => h.2.2⟩
  · cases e
theorem slotPut_get (sl : Array (Option Value)) (i j : Nat) (u : Value) : (((sl ++ Array.replicate (i + 1 - sl.size) none).setIfInBounds i (some u))[j]?).join = if j = i then some u else (sl[j]?).join := by
  rw [Array.getElem?_setIfInBounds]
  by_cases h : i = j
  · subst h
    rw [if_pos rfl, if_pos rfl, if_pos (by rw [Array.size_append, Array.size_replicate]; omega)]; rfl
  · rw [if_neg h, if_neg (fun q => h q.symm), Array.getElem?_append]
    split
    · rfl
    · rename_i hj
      rw [Array.getElem?_replicate, Array.getElem?_eq_none (by omega)]
      split <;> rfl
theorem putN_abs {q d : Nat} {a b c : Option MV} {v : MV} {o' : MO} (e : putN q v (.node d a b c) = some o') : q < 3 ∧ ∃ a' b' c', o' = .node d a' b' c' ∧
    ∀ {σ : List Int} {ρ : List Addr} {sl : Array (Option Value)} {u : Value}, AbsN σ ρ a b c sl → AbsV σ ρ v u → AbsN σ ρ a' b' c' ((sl ++ Array.replicate (q + 1 - sl.size) none).setIfInBounds q (some u)) := by
  unfold putN at e
  split at e
  · rename_i heq; cases heq; cases e
    refine ⟨by omega, _, _, _, rfl, fun h a => ⟨?_, ?_, ?_⟩⟩ <;> rw [slotPut_get]
    · exact ⟨_, if_pos rfl, a⟩
    · exact h.2.1
    · exact h.2.2
  · rename_i heq; cases heq; cases e
    refine ⟨by omega, _, _, _, rfl, fun h a => ⟨?_, ?_, ?_⟩⟩ <;> rw [slotPut_get]
    · exact h.1
    · exact ⟨_, if_pos rfl, a⟩
    · exact h.2.2
  · rename_i heq; cases heq; cases e
    refine ⟨by omega, _, _, _, rfl, fun h a => ⟨?_, ?_, ?_⟩⟩ <;> rw [slotPut_get]
    · exact h.1
    · exact h.2.1
    · exact ⟨_, if_pos rfl, a⟩
  · cases e
section
variable {X : Cx} {D : Desc}
theorem Ok.node {env : Env} {fs : List (Addr × NsM)} {s₀ : Shared} {ρ : List Addr} {fr : Frm} {st : St} {s : Shared} (O : Ok X D env fs s₀ ρ fr st s) {i d : Nat} {a : Addr} {y0 y1 y2 : Option MV} {x0 x1 x2 x3 : Option MV} (hi : st.H.get i = some (.node d y0 y1 y2)) (hd : st.H.get d = some (.idict x0 x1 x2 x3)) (ha : ρ[i]? = some a) :
    ∃ o da od, ρ[d]? = some da ∧ s.heap.get? a = some o ∧ o.cls = .ref X.cc.N ∧ o.dict = some da ∧ o.data = .plain ∧ AbsN X.σ ρ y0 y1 y2 o.slots ∧ InstAt s.heap a o X.cc.N (some od) := by
  obtain ⟨o, da, h1, h2, h3, h4, h5, h6⟩ := O.at hi ha
  obtain ⟨m, g3, g4, g5⟩ := O.at hd h3
  obtain ⟨od, es, ep, g6, _⟩ := id g3
  exact ⟨o, da, od, h3, h1, h2, h4, h5, h6, ⟨h1, h2, by unfold notCls; rw [h5], by rw [h4]; exact g6⟩⟩
theorem sound_getN {A : Around} {env : Env} {fs : List (Addr × NsM)} {s₀ : Shared} {ρ : List Addr} {fr : Frm} {st : St} {s : Shared} {x v : MV} {x' : Value} {q : Nat} {b : Bool} {Q : Value → Shared → Prop} {E : Value → Shared → Prop} (G : Gd X) (C : ClsOk X)
    (O : Ok X D env fs s₀ ρ fr st s) (hx : AbsV X.σ ρ x x') (e : getN q x st = some v) (h : ∀ v' s', Ok X D env fs s₀ ρ fr st s' → AbsV X.σ ρ v v' → Q v' s') : wpAny X.M A (getAttr x' (nodeName q) b) Q E s := by
  unfold getN at e
  split at e
  · rename_i i
    obtain ⟨a, ha, rfl⟩ := hx
    split at e
    · rename_i d y0 y1 y2 hi
      split at e
      · rename_i x0 x1 x2 x3 hd
        obtain ⟨e', hnd⟩ := handed_of (σ := X.σ) (ρ := ρ) e
        obtain ⟨hq, hab⟩ := attrN_abs e'
        obtain ⟨o, da, od, h1, h2, h3, h4, h5, h6, I⟩ := O.node hi hd ha
        obtain ⟨u, hu, au⟩ := hab h6
        obtain ⟨p, p1, p2, p3, p4⟩ := C.nfind q hq
        have hK := G.k.keeps O.top
        refine get_bind hK I C.nga (p4 _) C.ngt (wpAny_call (slot_get (s := { s with toks := s.toks + 1 }) hK I p1 hu ?_))
        show wpAny X.M A (handedOut u) Q E _
        rw [handedOut_of (hnd au)]
        exact wpAny_pure (h u _ O.tok au)
      · cases e
    · cases e
  · cases e
theorem sound_setN {A : Around} {env : Env} {fs : List (Addr × NsM)} {s₀ : Shared} {ρ : List Addr} {fr : Frm} {st st' : St} {s : Shared} {x v : MV} {x' v' : Value} {q : Nat} {Q : Unit → Shared → Prop} {E : Value → Shared → Prop} (G : Gd X) (C : ClsOk X)
    (O : Ok X D env fs s₀ ρ fr st s) (hx : AbsV X.σ ρ x x') (hv : AbsV X.σ ρ v v') (e : setN q x v st = some st') (h : ∀ s', Ok X D env fs s₀ ρ fr st' s' → Q () s') : wpAny X.M A (setAttr x' (nodeName q) v') Q E s := by
  unfold setN at e
  split at e
  · rename_i i
    obtain ⟨a, ha, rfl⟩ := hx
    split at e
    · rename_i d y0 y1 y2 hi
      split at e
      · rename_i x0 x1 x2 x3 hd
        split at e
        · rename_i o' eo
          cases e
          obtain ⟨hq, a', b', c', rfl, hab⟩ := putN_abs eo
          obtain ⟨o, da, od, h1, h2, h3, h4, h5, h6, I⟩ := O.node hi hd ha
          obtain ⟨p, p1, p2, p3, p4⟩ := C.nfind q hq
          have hK := G.k.keeps O.top
          obtain ⟨m, R, _⟩ := O.loc
          have hne : a ≠ env.locals := by
            obtain ⟨b, hb, _, _, hf, _⟩ := R.obj i _ hi
            rw [ha] at hb; cases hb
            exact fun z => hf (env.locals, m) (List.mem_cons_self ..) z.symm
          refine set_plain hK I C.nsa ?_
          refine osa_descr (s := { s with toks := s.toks + 1 }) KF.slot_mset hK I C.npo p2 p3 ?_
          refine slot_set (s := { s with toks := s.toks + 1 }) (pre := []) (post := others s.heap a env.locals) (fr_all R.ns) (news_all h2 hne) hK I p1 (by omega) (fun p hp => nomatch hp) (fun p hp => (others_mem.mp (show (p.1, p.2) ∈ _ from hp)).1) rfl (by
            obtain ⟨oc, odi, oda, osl⟩ := o
            simp only at h5; subst h5; rfl) fun h' F' N' => ?_
          obtain ⟨k1, k2⟩ := others_keep N'
          refine h _ (O.re (ρ' := ρ) (h' := h') (tk := s.toks + 1) (Ext.refl ρ) fun m' R' => ?_)
          have hm : m' = m := funext fun z => R'.ns.agree R.ns z
          subst hm
          exact R'.putL hi ha k2 F'.ns ⟨_, da, k1, h3, h1, h4, h5, hab h6 hv⟩
        · cases e
      · cases e
    · cases e
  · cases e
end
end Mine

end
section
namespace Mine
open PySem PySem.W PyProof.Rows PySem.Calls

noncomputable def AttrBase (o : Expr) (attr : Str) : Prop := ∀ env whole, attributeBase o attr env whole = whole
section
variable {X : Cx} {D : Desc}
theorem sound_eAttr {oe : Expr} {o : ME} {attr : Str} {pos : Pos} {g : MV → St → Option MV} (ho : SoundE X D oe o) (hb : AttrBase oe attr)
    (hg : ∀ {A : Around} {env : Env} {fs : List (Addr × NsM)} {s₀ : Shared} {ρ : List Addr} {fr : Frm} {st : St} {s : Shared} {x v : MV} {x' : Value} {b : Bool} {Q : Value → Shared → Prop} {E : Value → Shared → Prop},
      Ok X D env fs s₀ ρ fr st s → AbsV X.σ ρ x x' → g x st = some v → (∀ v' s', Ok X D env fs s₀ ρ fr st s' → AbsV X.σ ρ v v' → Q v' s') → wpAny X.M A (getAttr x' attr b) Q E s) :
    SoundE X D (.Attribute oe attr pos) (fun f s => match o f s with
      | none => none
      | some (x, f, s) => match g x s with
        | none => none
        | some v => some (v, f, s)) := by
  intro A env fs s₀ ρ fr st s v fr' st' Q E W O e h
  simp only at e
  split at e
  · cases e
  · rename_i x f1 s1 e1
    split at e
    · cases e
    · rename_i v1 e2
      cases e
      rw [arm_eval_Attribute, hb]
      refine wpAny_bind (ho W O e1 fun ρ1 x' t1 x1 O1 a1 => wpAny_bind (wpAny_standAt (wpAny_bind (wpAny_holding (hg O1 a1 e2 fun v' t2 O2 a2 => ?_)))))
      exact wpAny_bind (wpAny_letTemporaryGo (wpAny_pure (h ρ1 v' t2 x1 O2 a2)))
theorem sound_eAttrI (G : Gd X) (C : ClsOk X) {oe : Expr} {o : ME} {pos : Pos} (q : Nat) {attr : Str} (hq : attr = selfName q) (ho : SoundE X D oe o) (hb : AttrBase oe attr) : SoundE X D (.Attribute oe attr pos) (eAttrI q o) :=
  sound_eAttr ho hb fun O hx e h => hq ▸ sound_getI G C O hx e h
theorem sound_eAttrN (G : Gd X) (C : ClsOk X) {oe : Expr} {o : ME} {pos : Pos} (q : Nat) {attr : Str} (hq : attr = nodeName q) (ho : SoundE X D oe o) (hb : AttrBase oe attr) : SoundE X D (.Attribute oe attr pos) (eAttrN q o) :=
  sound_eAttr ho hb fun O hx e h => hq ▸ sound_getN G C O hx e h
theorem sound_tgAttrI (G : Gd X) (C : ClsOk X) {oe : Expr} {o : ME} {pos : Pos} (q : Nat) {attr : Str} (hq : attr = selfName q) (ho : SoundE X D oe o) : SoundTg X D (.Attribute oe attr pos) (.attrI q o) := by
  intro A env fs s₀ ρ fr st s v v' fr' st' Q E W O hv e h
  subst hq
  unfold store at e
  simp only at e
  split at e
  · cases e
  · rename_i x f1 s1 e1
    split at e
    · cases e
    · rename_i s2 e2
      cases e
      rw [arm_assign_Attribute]
      refine wpAny_bind (wpAny_holding (ho W O e1 fun ρ1 x' t1 x1 O1 a1 => ?_))
      exact wpAny_bind (wpAny_standAt (wpAny_bind (wpAny_holding (sound_setI G C O1 a1 (hv.mono x1) e2 fun t2 O2 => wpAny_release (h ρ1 t2 x1 O2)))))
theorem sound_tgAttrN (G : Gd X) (C : ClsOk X) {oe : Expr} {o : ME} {pos : Pos} (q : Nat) {attr : Str} (hq : attr = nodeName q) (ho : SoundE X D oe o) : SoundTg X D (.Attribute oe attr pos) (.attrN q o) := by
  intro A env fs s₀ ρ fr st s v v' fr' st' Q E W O hv e h
  subst hq
  unfold store at e
  simp only at e
  split at e
  · cases e
  · rename_i x f1 s1 e1
    split at e
    · cases e
    · rename_i s2 e2
      cases e
      rw [arm_assign_Attribute]
      refine wpAny_bind (wpAny_holding (ho W O e1 fun ρ1 x' t1 x1 O1 a1 => ?_))
      exact wpAny_bind (wpAny_standAt (wpAny_bind (wpAny_holding (sound_setN G C O1 a1 (hv.mono x1) e2 fun t2 O2 => wpAny_release (h ρ1 t2 x1 O2)))))
end
end Mine

end
section
namespace Mine
open PySem PySem.W PyProof.Rows PySem.Calls

section
variable {X : Cx} {D : Desc}
theorem sound_aug {A : Around} {env : Env} {fs : List (Addr × NsM)} {s₀ : Shared} {ρ : List Addr} {fr : Frm} {st : St} {s : Shared} {op : Operator} {x y z : Z} {x' y' : Value} {Q : Value → Shared → Prop} {E : Value → Shared → Prop}
    (O : Ok X D env fs s₀ ρ fr st s) (hx : AbsV X.σ ρ (.int x) x') (hy : AbsV X.σ ρ (.int y) y') (e : augZ op x y = some z) (h : ∀ v' s', Ok X D env fs s₀ ρ fr st s' → AbsV X.σ ρ (.int z) v' → Q v' s') : wpAny X.M A (inplaceOp op x' y') Q E s := by
  obtain ⟨t, rfl⟩ := hx
  obtain ⟨u, rfl⟩ := hy
  unfold augZ at e
  split at e
  · cases e
    exact PyProof.Rows.iadd_int (h _ _ O.tok ⟨_, rfl⟩)
  · cases e
    exact PyProof.Rows.isub_int (h _ _ O.tok ⟨_, rfl⟩)
  · cases e
theorem sound_sAugI (G : Gd X) (C : ClsOk X) {oe ve : Expr} {o a : ME} {tp pos : Pos} {op : Operator} (q : Nat) {attr : Str} (hq : attr = selfName q) (ho : SoundE X D oe o) (ha : SoundE X D ve a) : SoundS X D (.AugAssign (.Attribute oe attr tp) op ve pos) (sAugI q op o a) := by
  intro A env fs s₀ ρ fr st s f fr' st' Q E W O e h
  subst hq
  unfold sAugI at e
  split at e
  · cases e
  · rename_i x f1 s1 e1
    split at e
    · rename_i z e2
      split at e
      · rename_i y f3 s3 e3
        split at e
        · rename_i r e4
          split at e
          · rename_i s5 e5
            cases e
            refine wpAny_AugAssign_AttributeAny (ho W O e1 fun ρ1 x' t1 x1 O1 a1 => sound_getI G C O1 a1 e2 fun old t2 O2 a2 => ha W O2 e3 fun ρ3 y' t3 x3 O3 a3 => sound_aug O3 (a2.mono x3) a3 e4 fun new t4 O4 a4 => ?_)
            exact sound_setI G C O4 (a1.mono x3) a4 e5 fun t5 O5 => h ρ3 _ t5 (x1.trans x3) O5 rfl
          · cases e
        · cases e
      · cases e
    · cases e
theorem sound_sAugN (G : Gd X) (C : ClsOk X) {oe ve : Expr} {o a : ME} {tp pos : Pos} {op : Operator} (q : Nat) {attr : Str} (hq : attr = nodeName q) (ho : SoundE X D oe o) (ha : SoundE X D ve a) : SoundS X D (.AugAssign (.Attribute oe attr tp) op ve pos) (sAugN q op o a) := by
  intro A env fs s₀ ρ fr st s f fr' st' Q E W O e h
  subst hq
  unfold sAugN at e
  split at e
  · cases e
  · rename_i x f1 s1 e1
    split at e
    · rename_i z e2
      split at e
      · rename_i y f3 s3 e3
        split at e
        · rename_i r e4
          split at e
          · rename_i s5 e5
            cases e
            refine wpAny_AugAssign_AttributeAny (ho W O e1 fun ρ1 x' t1 x1 O1 a1 => sound_getN G C O1 a1 e2 fun old t2 O2 a2 => ha W O2 e3 fun ρ3 y' t3 x3 O3 a3 => sound_aug O3 (a2.mono x3) a3 e4 fun new t4 O4 a4 => ?_)
            exact sound_setN G C O4 (a1.mono x3) a4 e5 fun t5 O5 => h ρ3 _ t5 (x1.trans x3) O5 rfl
          · cases e
        · cases e
      · cases e
    · cases e
/-- a method of the sorter -/
structure MethOk (X : Cx) (name : Str) (f : Addr) : Prop where
  find : findIn X.K (.ref X.cc.T) name = some (some (.ref f))
  fn : typeIn X.K (.ref f) = some (.type "function")
  off : name ∉ selfNames
theorem getM_inst (G : Gd X) (C : ClsOk X) {name : Str} {f : Addr} (M : MethOk X name f) : GetM X .inst name (.ref f) := by
  intro D env A fs s₀ ρ fr st s i a pl Q E O hi ha h
  obtain ⟨d, x0, x1, x2, x3, hj, hd⟩ := isKd_inst hi
  obtain ⟨da, od, m, h1, h2, h3, h4, h5, h6, I⟩ := O.inst hj hd ha
  refine method_fn (G.k.keeps O.top) I C.tga C.tgt M.find M.fn ?_ h
  show (lookIn name od).map _ = _
  rw [lookIn_ns h4.ns h3]
  have : m name = none := by
    cases q : m name with
    | none => rfl
    | some v => exact absurd (h5 name (by rw [q]; exact fun z => nomatch z)) M.off
  rw [this]; rfl

-- constructors
theorem Ok.asD {env : Env} {fs : List (Addr × NsM)} {s₀ : Shared} {ρ : List Addr} {fr : Frm} {st : St} {s : Shared} (O : Ok X D env fs s₀ ρ fr st s) (n : Nat) : Ok X { D with d := n } env fs s₀ ρ fr st s := ⟨O.same, O.loc, O.cel⟩
theorem Ok.unD {env : Env} {fs : List (Addr × NsM)} {s₀ : Shared} {ρ : List Addr} {fr : Frm} {st : St} {s : Shared} {n : Nat} (O : Ok X { D with d := n } env fs s₀ ρ fr st s) : Ok X D env fs s₀ ρ fr st s := ⟨O.same, O.loc, O.cel⟩
theorem Wd.under {A : Around} {env : Env} {fs : List (Addr × NsM)} {n : Nat} {C : Addr} {rest : List Value} {kw : List (Str × Value)} (W : Wd X D A env fs) (hd : n < D.d) : Wd X { D with d := n } (A.under (.builtin "type.__call__" ⟨.ref C :: rest, kw⟩)) env fs := by
  refine ⟨⟨W.ok.nd, W.ok.loc, W.ok.cel⟩, W.kind, W.names, W.glob, W.bltn, ?_, ?_, W.hand, ?_⟩
  · have := W.room
    rw [depth_under_kw]
    show A.depth + 1 + n < recursionLimit
    omega
  · have := W.unit
    show A.units + Code.cUnits (.builtin "type.__call__" ⟨.ref C :: rest, kw⟩) + 10 * n + 200 < cLine
    have : Code.cUnits (.builtin "type.__call__" ⟨.ref C :: rest, kw⟩) = 1 := rfl
    omega
  · obtain ⟨e0, outer, h1, h0, h2⟩ := W.frm
    refine ⟨e0, outer, ?_, h0, h2⟩
    show pushEnvs (Code.envs (.builtin "type.__call__" ⟨.ref C :: rest, kw⟩)) A.frames = some (e0 :: outer)
    rw [h1]; rfl
end
end Mine

end
section
namespace Mine
open PySem PySem.W PyProof.Rows PySem.Calls

section
variable {X : Cx} {D : Desc}
/-- calling one of the two classes -/
theorem sound_make {A : Around} {env : Env} {fs : List (Addr × NsM)} {s₀ : Shared} {ρ : List Addr} {fr : Frm} {st : St} {s : Shared} {Cl fI : Addr} {fd : FuncData} {body : List Stmt} {Df : Desc} {ps : List Str} {locs cels : List (Option Nat)} {mb : MS} {xs dxs : List MV} {vs dvs : List Value} {st' : St} {o2 : MO} {Q : Value → Shared → Prop} {E : Value → Shared → Prop}
    (G : Gd X) (hm : makesIn X.K Cl = true) (hi : findIn X.K (.ref Cl) "__init__" = some (some (.ref fI))) (hf : typeIn X.K (.ref fI) = some (.type "function")) (F : FnOk X fI fd body Df ps locs cels) (hb : SoundB X Df body mb)
    (W : Wd X D A env fs) (hd : Df.d + 1 < D.d) (hh : D.h = true) (O : Ok X D env fs s₀ ρ fr st s) (ax : AbsVs X.σ ρ xs vs) (ad : AbsVs X.σ ρ dxs dvs)
    (hbind : ∀ (s : Shared) (self : Addr), (∀ b o, X.t.get? b = some o → s.heap.get? b = some o) → BindsTo s fd ⟨.ref self :: vs, []⟩ (ps.zip (.ref self :: (vs ++ dvs)))) (hps : ps.length = vs.length + dvs.length + 1)
    (ho2 : ∀ (ρ' : List Addr) (h : Heap) (a da : Addr), ρ'[st.n]? = some da → h.get? a = some (instObj Cl da) → X.AbsH ρ' h a o2)
    (e : fnGo locs cels mb (.ref (st.n + 1) :: (xs ++ dxs)) ((st.add (.idict none none none none)).add o2) = some (.none, st'))
    (h : ∀ ρ' a s', Ext ρ ρ' → Ok X D env fs s₀ ρ' fr st' s' → ρ'[st.n + 1]? = some a → Q (.ref a) s') : wpAny X.M A (call (.ref Cl) vs) Q E s := by
  obtain ⟨hh0, g, dd, tk, os⟩ := s
  have hK : X.K.In hh0 := G.k.keeps O.top
  have O1 : Ok X D env fs s₀ (ρ ++ [hh0.objs.size]) fr (st.add (.idict none none none none)) ⟨hh0.push emptyDict, g, dd, tk, os⟩ :=
    O.new (tk := tk) (o := .idict none none none none) (fun b ob eb => Heap.get?_push_of_some _ eb) ⟨fun _ => none, Heap.Ns1.of_empty (Heap.Ns.new hh0 _), fun y hy => (hy rfl).elim, trivial, trivial, trivial, trivial⟩
  have hsz : (hh0.push emptyDict).objs.size = hh0.objs.size + 1 := Heap.size_push ..
  have hn : (ρ ++ [hh0.objs.size])[st.n]? = some hh0.objs.size := by rw [← O.n]; simp
  have O2 : Ok X D env fs s₀ ((ρ ++ [hh0.objs.size]) ++ [hh0.objs.size + 1]) fr ((st.add (.idict none none none none)).add o2) ⟨(hh0.push emptyDict).push (instObj Cl hh0.objs.size), g, dd, tk, os⟩ := by
    have := O1.new (tk := tk) (o := o2) (h' := (hh0.push emptyDict).push (instObj Cl hh0.objs.size)) (fun b ob eb => Heap.get?_push_of_some _ eb) (ho2 _ _ _ hh0.objs.size ((Ext.snoc _ _).get hn) (Heap.get?_push_size _ rfl))
    rw [show (⟨hh0.push emptyDict, g, dd, tk, os⟩ : Shared).heap.objs.size = hh0.objs.size + 1 from hsz] at this
    exact this
  have hn2 : ((ρ ++ [hh0.objs.size]) ++ [hh0.objs.size + 1])[st.n + 1]? = some (hh0.objs.size + 1) := by
    have : (ρ ++ [hh0.objs.size]).length = st.n + 1 := by simp [O.n]
    rw [← this]; simp
  have x2 : Ext ρ ((ρ ++ [hh0.objs.size]) ++ [hh0.objs.size + 1]) := (Ext.snoc _ _).trans (Ext.snoc _ _)
  refine wpAny_call (make_core (makes_of hK hm) (looks_findIn hK hi) (fun self => bind_fn hK self hf) (.inl rfl) ?_)
  refine fn_core (D := { D with d := Df.d + 1 }) G F hb (W.under hd) (Nat.lt_succ_self _) hh (O2.asD _) (v := .none) (st' := st') (fun Q' E' h' => ?_) fun ρ' v' s' x' O' a' => ?_
  · have hl : ps.length = (Value.ref (hh0.objs.size + 1) :: (vs ++ dvs)).length := by simp; omega
    refine hbind _ _ O2.top _ _ _ _ (h' _ (.ref (st.n + 1) :: (xs ++ dxs)) _ _ _ (Ext.refl _) (O2.asD _) ?_ (zip_fst hl) e)
    rw [zip_snd hl]
    exact ⟨⟨_, hn2, rfl⟩, (ax.mono x2).append (ad.mono x2)⟩
  · cases a'
    exact ⟨rfl, h ρ' _ s' (x2.trans x') O'.unD (x'.get hn2)⟩
theorem sound_fSorter {fI : Addr} {fd : FuncData} {body : List Stmt} {Df : Desc} {ps : List Str} {locs cels : List (Option Nat)} {mb : MS} {np : Nat} (G : Gd X) (C : ClsOk X)
    (hi : findIn X.K (.ref X.cc.T) "__init__" = some (some (.ref fI))) (hf : typeIn X.K (.ref fI) = some (.type "function")) (F : FnOk X fI fd body Df ps locs cels) (hb : SoundB X Df body mb)
    (hbind : ∀ (s : Shared) (self : Addr), (∀ b o, X.t.get? b = some o → s.heap.get? b = some o) → BindsTo s fd ⟨[.ref self], []⟩ (ps.zip [.ref self, .none])) (hps : ps.length = 2) : SoundF X (Df.d + 1) (.ref X.cc.T) (fSorter (fn np locs cels mb)) := by
  intro D A env fs s₀ ρ fr st s xs vs v st' Q E W hd hh O a e h
  unfold fSorter at e
  split at e
  · match vs, a with
    | [], _ =>
      split at e
      · rename_i s1 e1
        cases e
        obtain ⟨_, e2⟩ := fn_go e1
        exact sound_make (xs := []) (vs := []) (dxs := [.none]) (dvs := [.none]) G C.tmk hi hf F hb W hd (hh rfl) O trivial ⟨rfl, trivial⟩ hbind hps (o2 := .inst st.n) (fun ρ' hp a da h1 h2 => ⟨da, h1, h2⟩) e2 fun ρ' a s' x' O' ha => h ρ' _ s' x' O' ⟨a, ha, rfl⟩
      · cases e
  · cases e
theorem sound_fNode {fI : Addr} {fd : FuncData} {body : List Stmt} {Df : Desc} {ps : List Str} {locs cels : List (Option Nat)} {mb : MS} {np : Nat} (G : Gd X) (C : ClsOk X)
    (hi : findIn X.K (.ref X.cc.N) "__init__" = some (some (.ref fI))) (hf : typeIn X.K (.ref fI) = some (.type "function")) (F : FnOk X fI fd body Df ps locs cels) (hb : SoundB X Df body mb)
    (hbind : ∀ (s : Shared) (self : Addr) (y : Value), (∀ b o, X.t.get? b = some o → s.heap.get? b = some o) → BindsTo s fd ⟨[.ref self, y], []⟩ (ps.zip [.ref self, y])) (hps : ps.length = 2) : SoundF X (Df.d + 1) (.ref X.cc.N) (fNode (fn np locs cels mb)) := by
  intro D A env fs s₀ ρ fr st s xs vs v st' Q E W hd hh O a e h
  unfold fNode at e
  split at e
  · rename_i x
    match vs, a with
    | [y], ⟨hy, _⟩ =>
      split at e
      · rename_i s1 e1
        cases e
        obtain ⟨_, e2⟩ := fn_go e1
        exact sound_make (xs := [x]) (vs := [y]) (dxs := []) (dvs := []) G C.nmk hi hf F hb W hd (hh rfl) O ⟨hy, trivial⟩ trivial (fun s self hk => hbind s self y hk) hps (o2 := .node st.n none none none) (fun ρ' hp a da h1 h2 => ⟨_, da, h2, rfl, h1, rfl, rfl, trivial, trivial, trivial⟩) e2 fun ρ' a s' x' O' ha => h ρ' _ s' x' O' ⟨a, ha, rfl⟩
      · cases e
  · cases e
end
end Mine

end
section
namespace Mine
open PySem PySem.W PyProof.Rows PySem.Calls

/-- o.m(.., *rest) as the tree has it -/
noncomputable def StarForm (oe : Expr) (name : Str) (apos pos : Pos) (ls : List Expr) : Prop := ∀ env : Env, eval (.Call (.Attribute oe name apos) ls [] pos) env = (do
      let ov ← eval oe env
      standAt apos.atName
      let (f, first) ← holding [ov] (do pure (← getAttr ov name true, ([] : List Value)))
      callWith pos f first (backTo pos (starEach ls env)) [])
section
variable {X : Cx} {D : Desc}
/-- reading a sorter's method makes a bound method object -/
theorem sound_bound {A : Around} {env : Env} {fs : List (Addr × NsM)} {s₀ : Shared} {ρ : List Addr} {fr : Frm} {st : St} {s : Shared} {name : Str} {fa : Addr} {i : Nat} {a : Addr} {b : Bool} {Q : Value → Shared → Prop} {E : Value → Shared → Prop} (G : Gd X) (C : ClsOk X) (M : MethOk X name fa)
    (hfo : ∀ od, lookIn name od = some none → findObj X.K X.cc.T (some od) name = some (.bind (.builtin "function.__get__") (.ref fa)))
    (O : Ok X D env fs s₀ ρ fr st s) (hi : isKd .inst st.H i = true) (ha : ρ[i]? = some a)
    (h : ∀ q s', Ok X D env fs s₀ (ρ ++ [q]) fr (st.add (.bound fa i)) s' → Q (.ref q) s') : wpAny X.M A (getAttr (.ref a) name b) Q E s := by
  obtain ⟨d, x0, x1, x2, x3, hj, hd⟩ := isKd_inst hi
  obtain ⟨da, od, m, h1, h2, h3, h4, h5, h6, I⟩ := O.inst hj hd ha
  have hK := G.k.keeps O.top
  have hm : m name = none := by
    cases q : m name with
    | none => rfl
    | some v => exact absurd (h5 name (by rw [q]; exact fun z => nomatch z)) M.off
  refine get_bind hK I C.tga (hfo od (by rw [lookIn_ns h4.ns h3, hm])) C.tgt (wpAny_call (fn_get (s := { s with toks := s.toks + 1 }) hK M.fn ?_))
  show wpAny X.M A (handedOut (.ref s.heap.objs.size)) Q E _
  rw [handedOut_of rfl]
  exact wpAny_pure (h _ _ (O.new (tk := s.toks + 1) (fun b ob eb => Heap.get?_push_of_some _ eb) ⟨a, (Ext.snoc ρ _).get ha, Heap.get?_push_size _ rfl⟩))
end
noncomputable def SoundC (X : Cx) (d : Nat) (f : Value) (F : MF) : Prop :=
  ∀ {D : Desc} {A : Around} {env : Env} {fs : List (Addr × NsM)} {s₀ : Shared} {ρ : List Addr} {fr : Frm} {st : St} {s : Shared} {xs : List MV} {vs : List Value} {v : MV} {st' : St} {R : Result → Shared → Prop},
    Wd X D A env fs → d < D.d → D.h = true → Ok X D env fs s₀ ρ fr st s → AbsVs X.σ ρ xs vs → F xs st = some (v, st') →
    (∀ ρ' v' s', Ext ρ ρ' → Ok X D env fs s₀ ρ' fr st' s' → AbsV X.σ ρ' v v' → R (.ok (.ret v')) s') → codeAny X.M A (.call f ⟨vs, []⟩) R s
section
variable {X : Cx} {D : Desc}
theorem sound_fnStarC {f : Addr} {fd : FuncData} {body : List Stmt} {Df : Desc} {ps : List Str} {vn : Str} {locs cels : List (Option Nat)} {mb : MS} {np : Nat} (G : Gd X) (F : FnOk X f fd body Df (ps ++ [vn]) locs cels) (hb : SoundB X Df body mb) (hn : np = ps.length)
    (hbind : ∀ vs : List Value, ps.length ≤ vs.length → bindArgs fd ⟨vs, []⟩ = (newTuple (vs.drop ps.length) >>= fun t => pure (ps.zip (vs.take ps.length) ++ [(vn, t)]))) : SoundC X Df.d (.ref f) (fnStar np locs cels mb) := by
  intro D A env fs s₀ ρ fr st s xs vs v st' R W hd hh O a e h
  obtain ⟨hl, hs, e'⟩ := fnStar_go e
  have hlx := a.length
  have hlv : ps.length ≤ vs.length := by omega
  have hz : ps.length = (vs.take ps.length).length := by rw [List.length_take]; omega
  refine fn_core G F hb W hd hh O (fun Q' E' h' => ?_) h
  rw [hbind vs hlv]
  have := line_big
  refine wpAny_bind (wpAny_newTuple (wpAny_pure ?_) (by rw [List.length_drop]; omega))
  have O1 : Ok X D env fs s₀ (ρ ++ [s.heap.objs.size]) fr (st.add (.tup (xs.drop np))) { s with heap := s.heap.push { cls := .type "tuple", data := .seq (vs.drop ps.length).toArray } } :=
    O.new (tk := s.toks) (fun b ob eb => Heap.get?_push_of_some _ eb) ⟨_, ⟨0, Heap.get?_push_size _ rfl⟩, (hn ▸ (a.mono (Ext.snoc ρ _)).drop np)⟩
  refine h' _ _ _ _ _ (Ext.snoc ρ _) O1 ?_ ?_ e'
  · rw [List.map_append, zip_snd hz]
    exact ((hn ▸ (a.mono (Ext.snoc ρ _)).take np : AbsVs X.σ _ (xs.take np) (vs.take ps.length))).append ⟨O.newV _, trivial⟩
  · rw [List.map_append, zip_fst hz]; rfl
/-- *rest: a list or a tuple of ours -/
theorem sound_starOf {A : Around} {env : Env} {fs : List (Addr × NsM)} {s₀ : Shared} {ρ : List Addr} {fr : Frm} {st : St} {s : Shared} {y : MV} {y' : Value} {ys : List MV} {Q : List Value → Shared → Prop} {E : Value → Shared → Prop}
    (O : Ok X D env fs s₀ ρ fr st s) (hy : AbsV X.σ ρ y y') (e : itemsOf st y = some ys) (hs : short ys = true) (h : ∀ vs s', Ok X D env fs s₀ ρ fr st s' → AbsVs X.σ ρ ys vs → Q vs s') : StarOf X.M A E y' Q s := by
  have hs' := short_le hs
  have := line_big
  unfold itemsOf at e
  split at e
  · rename_i i
    obtain ⟨a, ha, rfl⟩ := hy
    split at e
    · rename_i xs hi
      cases e
      obtain ⟨va, ⟨na, pa⟩, qa⟩ := O.at hi ha
      have la : ys.length = va.size := qa.length.trans Array.length_toList
      unfold StarOf notIterableAtAll
      exact wpAny_bind (wpAny_specialOf ⟨_, pa, rfl⟩ PySem.F.slot_list_iter.lookup (wpAny_pure ⟨rfl, wpAny_collect_seq a (T := "list") (.inl rfl) pa rfl rfl (fun h' hk => h _ _ (O.grown (tk := s.toks) hk) qa) (by omega)⟩))
    · rename_i xs hi
      cases e
      obtain ⟨va, ⟨na, pa⟩, qa⟩ := O.at hi ha
      have la : ys.length = va.size := qa.length.trans Array.length_toList
      unfold StarOf notIterableAtAll
      exact wpAny_bind (wpAny_specialOf ⟨_, pa, rfl⟩ PySem.F.slot_tuple_iter.lookup (wpAny_pure ⟨rfl, wpAny_collect_seq a (T := "tuple") (.inr rfl) pa rfl rfl (fun h' hk => h _ _ (O.grown (tk := s.toks) hk) qa) (by omega)⟩))
    · cases e
  · cases e
theorem sound_allStar (pos : Pos) {re : Expr} {r : ME} {sp : Pos} (hr : SoundE X D re r) : ∀ {ls : List Expr} {as : List ME}, SoundL X D ls as → ∀ {A : Around} {env : Env} {fs : List (Addr × NsM)} {s₀ : Shared} {ρ : List Addr} {fr : Frm} {st : St} {s : Shared} {xs ys : List MV} {y : MV} {fr' fr'' : Frm} {st' st'' : St} {Q : List Value → Shared → Prop} {E : Value → Shared → Prop},
    Wd X D A env fs → Ok X D env fs s₀ ρ fr st s → eAll as fr st = some (xs, fr', st') → r fr' st' = some (y, fr'', st'') → itemsOf st'' y = some ys → short ys = true →
    (∀ ρ' vs s', Ext ρ ρ' → Ok X D env fs s₀ ρ' fr'' st'' s' → AbsVs X.σ ρ' (xs ++ ys) vs → Q vs s') → wpAny X.M A (spliced (backTo pos (starEach (ls ++ [.Starred re sp]) env))) Q E s
  | [], [], _, A, env, fs, s₀, ρ, fr, st, s, xs, ys, y, fr', fr'', st', st'', Q, E, W, O, e, er, ei, hs, h => by
    cases e
    refine items_star (hr W O er fun ρ1 y' t1 x1 O1 a1 => sound_starOf O1 a1 ei hs fun vs t2 O2 a2 => ?_)
    exact wpAny_items_nil (h ρ1 _ t2 x1 O2 (by rw [List.append_nil]; exact a2))
  | l :: ls, a :: as, ⟨ha, hstar, hl⟩, A, env, fs, s₀, ρ, fr, st, s, xs, ys, y, fr', fr'', st', st'', Q, E, W, O, e, er, ei, hs, h => by
    unfold eAll at e
    split at e
    · cases e
    · rename_i x f1 s1 e1
      split at e
      · cases e
      · rename_i zs f2 s2 e2
        cases e
        exact wpAny_items_cons (ha W O e1 fun ρ1 x' t1 x1 O1 a1 => sound_allStar pos hr hl W O1 e2 er ei hs fun ρ2 vs t2 x2 O2 a2 => h ρ2 (x' :: vs) t2 (x1.trans x2) O2 ⟨a1.mono x2, a2⟩) (hstar env _)
  | [], _ :: _, h, _, _, _, _, _, _, _, _, _, _, _, _, _, _, _, _, _, _, _, _, _, _, _, _ => h.elim
  | _ :: _, [], h, _, _, _, _, _, _, _, _, _, _, _, _, _, _, _, _, _, _, _, _, _, _, _, _ => h.elim
theorem sound_methStar {oe re : Expr} {name : Str} {apos pos sp : Pos} {ls : List Expr} {as : List ME} {F : MF} {fa : Addr} {o r : ME} {d : Nat} (G : Gd X) (C : ClsOk X) (M : MethOk X name fa)
    (hfo : ∀ od, lookIn name od = some none → findObj X.K X.cc.T (some od) name = some (.bind (.builtin "function.__get__") (.ref fa))) (hfn : fnIn X.K fa = true)
    (hc : SoundC X d (.ref fa) F) (hd : d < D.d) (hh : D.h = true) (ho : SoundE X D oe o) (hl : SoundL X D ls as) (hr : SoundE X D re r) (hf : StarForm oe name apos pos (ls ++ [.Starred re sp]))
    (hst : ∀ env, (backTo pos (starEach (ls ++ [.Starred re sp]) env)).any (·.1) = true) : SoundE X D (.Call (.Attribute oe name apos) (ls ++ [.Starred re sp]) [] pos) (eMethStar fa F o as r) := by
  intro A env fs s₀ ρ fr st s v fr' st' Q E W O e h
  unfold eMethStar at e
  split at e
  · rename_i i f1 s1 e1
    split at e
    · rename_i hi
      split at e
      · cases e
      · rename_i xs f2 s2 e2
        split at e
        · cases e
        · rename_i y f3 s3 e3
          split at e
          · cases e
          · rename_i ys e4
            split at e
            · rename_i fb j e5
              split at e
              · rename_i hb
                split at e
                · cases e
                · rename_i v4 s4 e6
                  cases e
                  simp only [Bool.and_eq_true] at hb
                  obtain ⟨⟨hb1, hb2⟩, hs⟩ := hb
                  have hb1 := Nat.eq_of_beq_eq_true hb1
                  have hb2 := Nat.eq_of_beq_eq_true hb2
                  subst hb1; subst hb2
                  rw [hf env]
                  refine wpAny_bind (ho W O e1 fun ρ1 v1 t1 x1 O1 a1 => wpAny_bind (wpAny_standAt ?_))
                  obtain ⟨a, ha, rfl⟩ := a1
                  refine wpAny_bind (wpAny_holding (wpAny_bind (sound_bound G C M hfo O1 hi ha fun q t2 O2 => wpAny_pure ?_)))
                  dsimp only
                  refine ks_call (P := MethP X.K q fb (.ref a)) (hst env) (keeps_M hfn) ?_
                  have fin : ∀ ρ' vs s', Ext (ρ1 ++ [q]) ρ' → Ok X D env fs s₀ ρ' fr' s3 s' → AbsVs X.σ ρ' (xs ++ ys) vs →
                      MethP X.K q fb (.ref a) s'.heap ∧ wpAny X.M A (call (.ref q) ([] ++ (⟨vs, []⟩ : Args).pos) (⟨vs, []⟩ : Args).kw) Q E s' := by
                    intro ρ' vs s' x' O' a'
                    have hq : ρ'[s1.n]? = some q := x'.get (by rw [← O1.n]; simp)
                    have ha' : ρ'[j]? = some a := x'.get ((Ext.snoc _ _).get ha)
                    obtain ⟨a2, ha2, hm⟩ := O'.at e5 hq
                    rw [ha'] at ha2; cases ha2
                    refine ⟨⟨hm, G.k.keeps O'.top⟩, wpAny_call (method_call hm ?_)⟩
                    exact hc (xs := .ref j :: (xs ++ ys)) W hd hh O' (⟨⟨a, ha', rfl⟩, a'⟩ : AbsVs X.σ ρ' (.ref j :: (xs ++ ys)) (.ref a :: vs)) e6 fun ρ2 v2 s5 x2 O5 a5 => h ρ2 v2 s5 (x1.trans ((Ext.snoc _ _).trans (x'.trans x2))) O5 a5
                  match ls, as, hl, e2 with
                  | [], [], _, e2 =>
                    cases e2
                    exact ks_lone (hr W O2 e3 fun ρ3 y' t3 x3 O3 a3 => sound_starOf O3 a3 e4 hs fun vs t4 O4 a4 => fin ρ3 vs t4 x3 O4 a4)
                  | l :: ls, a :: as, hl, e2 =>
                    have he := hl.2.1 env (ls ++ [.Starred re sp])
                    have z : wpAny X.M A (spliced (backTo pos (starEach ((l :: ls) ++ [.Starred re sp]) env))) (fun vs s' => MethP X.K q fb (.ref _) s'.heap ∧ wpAny X.M A (call (.ref q) ([] ++ (⟨vs, []⟩ : Args).pos) (⟨vs, []⟩ : Args).kw) Q E s') E t2 :=
                      sound_allStar pos hr hl W O2 e2 e3 e4 hs fin
                    rw [List.cons_append, he] at z ⊢
                    exact evalArgs_plain z
              · cases e
            · cases e
    · cases e
  · cases e
end
end Mine

end
section
namespace Mine
open PySem PySem.W PyProof.Rows PySem.Calls

theorem entry_iter : entryFor table "iter" = some Builtin.«iter» := entryFor_of_fast (by kernel_rfl)
theorem kind_iter : builtinKind "iter" = none := by decide +kernel
theorem plain_iter : plainId "iter" = true := by decide +kernel
theorem args_iter1 (a : Value) : argsOk "iter" ⟨[a], []⟩ := by unfold argsOk; kernel_rfl

theorem slot_li_ga : Slot "list_iterator" "__getattribute__" "object.__getattribute__" :=
  .of (owner := "object") (n := "__getattribute__") (by rw [typeLookup_type, builtinLookup_eq_fast]; kernel_rfl) (by decide +kernel) (by decide +kernel) (by decide +kernel)
    (by first | exact .inl (by decide +kernel) | exact .inr (by decide +kernel)) (by rw [isSubtype_type]; kernel_rfl)
theorem look_li_next : typeLookup (.type "list_iterator") "__next__" = pure (some (.builtin "list_iterator.__next__")) := by rw [typeLookup_type, builtinLookup_eq_fast]; kernel_rfl
theorem type_li_next : typeOf (.builtin "list_iterator.__next__") = pure (.type "wrapper_descriptor") := by kernel_rfl
theorem slot_wd_get : Slot "wrapper_descriptor" "__get__" "wrapper_descriptor.__get__" :=
  .of (owner := "wrapper_descriptor") (n := "__get__") (by rw [typeLookup_type, builtinLookup_eq_fast]; kernel_rfl) (by decide +kernel) (by decide +kernel) (by decide +kernel)
    (by first | exact .inl (by decide +kernel) | exact .inr (by decide +kernel)) (by rw [isSubtype_type]; kernel_rfl)
theorem look_wd_set : typeLookup (.type "wrapper_descriptor") "__set__" = pure none := by rw [typeLookup_type, builtinLookup_eq_fast]; kernel_rfl
theorem look_wd_del : typeLookup (.type "wrapper_descriptor") "__delete__" = pure none := by rw [typeLookup_type, builtinLookup_eq_fast]; kernel_rfl
theorem entry_wd_get : entryFor table "wrapper_descriptor.__get__" = some Builtin.«wrapper_descriptor.__get__» := entryFor_of_fast (by kernel_rfl)
theorem args_wd_get (a b c : Value) : argsOk "wrapper_descriptor.__get__" ⟨[a, b, c], []⟩ := by unfold argsOk; kernel_rfl
theorem owner_li_next : (".".intercalate ("list_iterator.__next__".cutAt '.').dropLast) = "list_iterator" := by
  have e0 : "list_iterator.__next__".cutAt '.' = ["list_iterator", "__next__"] := by first | rfl | decide +kernel
  rw [e0]; decide +kernel
theorem sub_li : isSubtype (.type "list_iterator") (.type "list_iterator") = pure true := by rw [isSubtype_type]; kernel_rfl
theorem entry_obj_ga : entryFor table "object.__getattribute__" = some Builtin.«object.__getattribute__» := entryFor_of_fast (by kernel_rfl)
theorem args_obj_ga (a b : Value) : argsOk "object.__getattribute__" ⟨[a, b], []⟩ := by unfold argsOk; kernel_rfl

section
variable {X : Cx} {D : Desc}
theorem sound_fIter (d : Nat) : SoundF X d (.builtin "iter") fIter false := by
  intro D A env fs s₀ ρ fr st s xs vs v st' Q E W hd hh O a e h
  unfold fIter at e
  split at e
  · rename_i i
    match vs, a with
    | [v1], ⟨⟨a1, ha, hv⟩, _⟩ =>
      subst hv
      split at e
      · rename_i ys hi
        cases e
        obtain ⟨va, ⟨na, pa⟩, qa⟩ := O.at hi ha
        refine call_function_entry kind_iter plain_iter entry_iter (args_iter1 _) ?_
        unfold Builtin.«iter»
        refine wpAny_bind (m := someArgs "iter" 1 2 _) (wpAny_pure ?_)
        refine wpAny_bind (wpAny_pyIter_list ⟨_, pa, rfl, _, rfl⟩ (wpAny_pure ⟨_, rfl, ?_⟩))
        exact h _ _ _ (Ext.snoc ρ _) (O.new (tk := s.toks) (fun b ob eb => Heap.get?_push_of_some _ eb) ⟨_, (Ext.snoc ρ _).get ha, Heap.get?_push_size _ rfl⟩) (O.newV _)
      · cases e
  · cases e
end

noncomputable def wrapObj (ia : Addr) : Obj := { cls := .type "method-wrapper", data := .fields #[.builtin "list_iterator.__next__", .ref ia] }
section
variable {prog : Program} {w : World} {A : Around} {E : Value → Shared → Prop} {h : Heap} {g : Array GenState} {d : Drawn} {t : Nat} {os : OsState} {a : Addr} {la : Addr}
theorem next_get {R : Result → Shared → Prop} (hx : h.get? a = some { cls := .type "list_iterator", data := .fields #[.ref la, .int 0 0] }) (hq : R (.ok (.ret (.ref h.objs.size))) ⟨h.push (wrapObj a), g, d, t, os⟩) :
    codeAny (model prog w) A (.call (.builtin "wrapper_descriptor.__get__") ⟨[.builtin "list_iterator.__next__", .ref a, .type "list_iterator"], []⟩) R ⟨h, g, d, t, os⟩ := by
  have hT : (⟨h, g, d, t, os⟩ : Shared).TypeIs (.ref a) "list_iterator" := ⟨_, hx, rfl⟩
  have hT5 : (⟨h, g, d, t, os⟩ : Shared).TypeIs (.builtin "list_iterator.__next__") "wrapper_descriptor" := type_li_next
  have f8 : isSubtype (.type "list_iterator") (.type (".".intercalate ("list_iterator.__next__".cutAt '.').dropLast)) = pure true := by rw [owner_li_next]; exact sub_li
  refine codeAny_call_builtin slot_wd_get.plain entry_wd_get (slot_wd_get.check _ _ _ _ _ _ _ _ hT5 (args_wd_get _ _ _) ?_)
  repeat (any_goals (first | assumption | wp_step))
theorem next_entry {tk : Tok} {Q : Fin → Shared → Prop} (hx : h.get? a = some { cls := .type "list_iterator", data := .fields #[.ref la, .int 0 0] }) (hq : Q (.done (.ret (.ref h.objs.size))) ⟨h.push (wrapObj a), g, d, t, os⟩) :
    wpAny (model prog w) A (Builtin.«object.__getattribute__» ⟨[.ref a, .str "__next__" tk], []⟩) Q E ⟨h, g, d, t, os⟩ := by
  have hT : (⟨h, g, d, t, os⟩ : Shared).TypeIs (.ref a) "list_iterator" := ⟨_, hx, rfl⟩
  have hT5 : (⟨h, g, d, t, os⟩ : Shared).TypeIs (.builtin "list_iterator.__next__") "wrapper_descriptor" := type_li_next
  have f4 := look_li_next
  have f5 := type_li_next
  have f6 := slot_wd_get.lookup
  have f7 := look_wd_set
  have f8 := look_wd_del
  repeat (any_goals (first | assumption | wp_step))
  refine next_get hx ?_
  repeat (any_goals (first | assumption | wp_step))
theorem next_call {tk : Tok} {R : Result → Shared → Prop} (hx : h.get? a = some { cls := .type "list_iterator", data := .fields #[.ref la, .int 0 0] }) (hq : R (.ok (.ret (.ref h.objs.size))) ⟨h.push (wrapObj a), g, d, t, os⟩) :
    codeAny (model prog w) A (.call (.builtin "object.__getattribute__") ⟨[.ref a, .str "__next__" tk], []⟩) R ⟨h, g, d, t, os⟩ :=
  codeAny_call_builtin slot_li_ga.plain entry_obj_ga (slot_li_ga.check _ _ _ _ _ _ _ _ (show (⟨h, g, d, t, os⟩ : Shared).TypeIs (.ref a) "list_iterator" from ⟨_, hx, rfl⟩) (args_obj_ga _ _) (next_entry hx hq))
theorem next_by {tk : Tok} {fill expr : Bool} {Q : Value → Shared → Prop} (hx : h.get? a = some { cls := .type "list_iterator", data := .fields #[.ref la, .int 0 0] }) (hq : Q (.ref h.objs.size) ⟨h.push (wrapObj a), g, d, t, os⟩) :
    wpAny (model prog w) A (getAttrBy (.ref a) (.str "__next__" tk) fill expr) Q E ⟨h, g, d, t, os⟩ := by
  have hT : (⟨h, g, d, t, os⟩ : Shared).TypeIs (.ref a) "list_iterator" := ⟨_, hx, rfl⟩
  have f2 := slot_li_ga.lookup
  have f3 := slot_li_ga.bind (.ref a)
  have hx0 : (expr && onTheHeap (Value.builtin "object.__getattribute__")) = false := by cases expr <;> rfl
  repeat (any_goals (first | assumption | wp_step))
  refine next_call hx ?_
  repeat (any_goals (first | assumption | wp_step))
theorem next_attr {expr : Bool} {Q : Value → Shared → Prop} (hx : h.get? a = some { cls := .type "list_iterator", data := .fields #[.ref la, .int 0 0] }) (hq : Q (.ref h.objs.size) ⟨h.push (wrapObj a), g, d, t + 1, os⟩) :
    wpAny (model prog w) A (getAttr (.ref a) "__next__" expr) Q E ⟨h, g, d, t, os⟩ := by
  unfold getAttr
  repeat (any_goals (first | assumption | with_reducible apply next_by hx | wp_step))
end
section
variable {X : Cx} {D : Desc}
theorem sound_eNextOf {oe : Expr} {o : ME} {pos : Pos} (ho : SoundE X D oe o) (hb : AttrBase oe "__next__") : SoundE X D (.Attribute oe "__next__" pos) (eNextOf o) := by
  intro A env fs s₀ ρ fr st s v fr' st' Q E W O e h
  unfold eNextOf at e
  split at e
  · rename_i i f1 s1 e1
    split at e
    · rename_i l hi
      cases e
      rw [arm_eval_Attribute, hb]
      refine wpAny_bind (ho W O e1 fun ρ1 x' t1 x1 O1 a1 => wpAny_bind (wpAny_standAt (wpAny_bind (wpAny_holding ?_))))
      obtain ⟨a, ha, rfl⟩ := a1
      obtain ⟨la, hla, hx⟩ := O1.at hi ha
      obtain ⟨hh, g, d, tk, os⟩ := t1
      refine next_attr hx ?_
      have O2 : Ok X D env fs s₀ ρ1 fr' (s1.put i (.liter l 0)) ⟨hh, g, d, tk, os⟩ := O1.put (tk := tk) hi ha (fun b ob _ eb => eb) ⟨la, hla, ⟨_, hx, rfl, rfl⟩⟩
      have O3 : Ok X D env fs s₀ (ρ1 ++ [hh.objs.size]) fr' ((s1.put i (.liter l 0)).add (.next i)) ⟨hh.push (wrapObj a), g, d, tk + 1, os⟩ :=
        O2.new (tk := tk + 1) (fun b ob eb => Heap.get?_push_of_some _ eb) ⟨a, (Ext.snoc ρ1 _).get ha, Heap.get?_push_size _ rfl⟩
      exact wpAny_bind (wpAny_letTemporaryGo (wpAny_pure (h _ _ _ (x1.trans (Ext.snoc _ _)) O3 (O2.newV _))))
    · cases e
  · cases e
end
end Mine

end
section
namespace Mine
open PySem PySem.W PyProof.Rows PySem.Calls

-- the wrapper's call
theorem bound_li_next (a : Addr) : checkBoundCall "list_iterator.__next__" ⟨[.ref a], []⟩ = pure () := by kernel_rfl
section
variable {prog : Program} {w : World} {A : Around} {E : Value → Shared → Prop} {s : Shared}
theorem wrap_call {q it : Addr} {R : Result → Shared → Prop} (hq : s.heap.get? q = some (wrapObj it))
    (h : wpAny (model prog w) (A.under (.builtin "list_iterator.__next__" ⟨[.ref it], []⟩)) (Builtin.«list_iterator.__next__» ⟨[.ref it], []⟩)
      (fun fin s' => match fin with | .done f => R (.ok f) s' | .again c' => c'.quiet = true ∧ codeAny (model prog w) A c' R s') (fun e s' => R (.error e) s') s) :
    codeAny (model prog w) A (.call (.ref q) ⟨[], []⟩) R s := by
  obtain ⟨hh, g, dr, t, os⟩ := s
  refine codeAny_of_tree ?_
  show wpAny _ _ (callAny (.ref q) _) _ _ _
  dsimp only at hq
  refine nd_load hq ?_
  show wpAny _ _ (checkBoundCall "list_iterator.__next__" ⟨[.ref it], []⟩ >>= fun _ => again (.builtin "list_iterator.__next__" ⟨[.ref it], []⟩)) _ _ _
  rw [bound_li_next]
  exact wpAny_bind (wpAny_pure (wpAny_pure ⟨Code.quiet_builtin _ (by decide +kernel), codeAny_builtin entry_listiter_next h⟩))
theorem wrap_item {q it l : Addr} {i : Nat} {items : Array Value} {x : Value} {Q : Value → Shared → Prop} (hq : s.heap.get? q = some (wrapObj it)) (hit : s.heap.IsListIter it l i) (hl : s.heap.IsList l items) (hx : items[i]? = some x)
    (hQ : ∀ h', h'.IsListIter it l (i + 1) → Heap.SameBut it s.heap h' → Q x { s with heap := h' }) : wpAny (model prog w) A (call (.ref q) []) Q E s := by
  obtain ⟨o, ho, hc, hd⟩ := id hit
  obtain ⟨ol, hol, _, nl, hdl⟩ := hl
  refine wpAny_call (wrap_call hq ?_)
  show wpAny _ _ (field (.ref it) 0 >>= _) _ _ s
  refine wpAny_bind (wpAny_field ho hd (x := .ref l) rfl ?_)
  show wpAny _ _ (if (Value.ref l == Value.none) = true then _ else _) _ _ s
  rw [if_neg (show ¬ ((Value.ref l == Value.none) = true) from Bool.false_ne_true)]
  show wpAny _ _ (field (.ref it) 1 >>= _) _ _ s
  refine wpAny_bind (wpAny_field ho hd (x := .int i 0) rfl ?_)
  show wpAny _ _ (seqItems? (.ref l) >>= _) _ _ s
  refine wpAny_bind (wpAny_seqItems hol hdl ?_)
  simp only [Int.toNat_natCast, hx]
  refine wpAny_bind (wpAny_setField ho hd (by simp) (wpAny_pure (hQ _ ?_ (Heap.SameBut.update ..))))
  exact ⟨_, Heap.get?_update_self _ ho (Obj.isFreed_of_fields (Obj.data_mapFields hd _)), (Obj.cls_mapFields ..).trans hc, by
    rw [Obj.data_mapFields hd]; simp [rawInt]⟩
theorem wrap_end {q it l : Addr} {i : Nat} {items : Array Value} {Q : Value → Shared → Prop} (hh : A.handled = none) (hq : s.heap.get? q = some (wrapObj it)) (hit : s.heap.IsListIter it l i) (hl : s.heap.IsList l items) (hx : items[i]? = none)
    (hE : ∀ h' e oe vs, (∀ b o, b ≠ it → s.heap.get? b = some o → h'.get? b = some o) → s.heap.get? e = none → h'.get? e = some oe → oe.cls = .type "StopIteration" → oe.data = .fields vs → vs[1]? = some .none → E (.ref e) { s with heap := h' }) : wpAny (model prog w) A (call (.ref q) []) Q E s := by
  obtain ⟨o, ho, hc, hd⟩ := id hit
  obtain ⟨ol, hol, _, nl, hdl⟩ := hl
  refine wpAny_call (wrap_call hq ?_)
  show wpAny _ _ (field (.ref it) 0 >>= _) _ _ s
  refine wpAny_bind (wpAny_field ho hd (x := .ref l) rfl ?_)
  show wpAny _ _ (if (Value.ref l == Value.none) = true then _ else _) _ _ s
  rw [if_neg (show ¬ ((Value.ref l == Value.none) = true) from Bool.false_ne_true)]
  show wpAny _ _ (field (.ref it) 1 >>= _) _ _ s
  refine wpAny_bind (wpAny_field ho hd (x := .int i 0) rfl ?_)
  show wpAny _ _ (seqItems? (.ref l) >>= _) _ _ s
  refine wpAny_bind (wpAny_seqItems hol hdl ?_)
  simp only [Int.toNat_natCast, hx]
  refine wpAny_bind (wpAny_rule (wpAny_bind (wpAny_setField ho hd (by simp) ?_)))
  show wpAny _ _ (newExc (.type "StopIteration") [] >>= _) _ _ _
  refine wpAny_bind ?_
  simp only [newExc, newTuple]
  refine wpAny_bind (wpAny_newObj_type ?_ (by size_fits))
  refine wpAny_bind (m := firstArgMember _ _) (wpAny_of_eq (a := Value.none) (by first | rfl | (simp only [firstArgMember]; rfl)) ?_)
  refine wpAny_newObj_type ?_ (by size_fits)
  simp only [raiseNew]
  refine wpAny_bind (wpAny_handled ?_)
  rw [show (A.under (.builtin "list_iterator.__next__" ⟨[.ref it], []⟩)).handled = none from hh]
  refine wpAny_bind (wpAny_pure (wpAny_throw ?_))
  refine hE _ _ _ _ (fun b ob hb e => ?_) ?_ (Heap.get?_push_size _ rfl) rfl rfl rfl
  · exact Heap.get?_push_of_some _ (Heap.get?_push_of_some _ ((Heap.get?_update_other _ _ (Ne.symm hb)).trans e))
  · exact Heap.get?_none_of_le (by simp [Heap.size_push, Heap.size_after_update])
theorem note_mine {env e0 : Env} {outer : List Env} {L e : Addr} {oe : Obj} {vs : Array Value} {base : Heap} {Q : Unit → Shared → Prop} (hfr : A.frames = some (e0 :: outer)) (h0 : e0.frame = some L) (hf : env.frame = some L) (hl : s.heap.FunFrames base (e0 :: outer))
    (he : s.heap.get? e = some oe) (hd : oe.data = .fields vs) (h1 : vs[1]? = some .none)
    (h : ∀ h', (∃ oe' vs' tb otb tvs, h'.get? e = some oe' ∧ oe'.cls = oe.cls ∧ oe'.data = .fields vs' ∧ vs'[1]? = some (.ref tb) ∧ s.heap.get? tb = none ∧ tb ≠ e ∧ h'.get? tb = some otb ∧ otb.data = .fields tvs ∧ 3 < tvs.size) →
      (∀ b o, b ∉ (e0 :: outer).filterMap (·.frame) → b ≠ e → s.heap.get? b = some o → h'.get? b = some o) → (∀ b o, b ≠ e → s.heap.get? b = some o → ∃ sl, h'.get? b = some { o with slots := sl }) → Q () { s with heap := h' }) :
    wpAny (model prog w) A (noteFrame (.ref e) env) Q E s := by
  have hsz : 1 < vs.size := (Array.getElem?_eq_some_iff.mp h1).1
  have hene : e ∉ (e0 :: outer).filterMap (·.frame) := fun hm => by
    obtain ⟨_, o, ho, hnf⟩ := hl.mem hm
    rw [he] at ho; injection ho with ho; subst ho; exact hnf vs hd
  unfold noteFrame
  simp only [hf]
  refine wpAny_bind (wpAny_field he hd h1 ?_)
  rw [if_neg (by decide)]
  unfold PySem.frameOf
  refine wpAny_bind (wpAny_bind (wpAny_frameEnvs hfr ?_))
  have hdw : ((e0 :: outer).dropWhile fun x => x.frame != env.frame) = e0 :: outer := by simp [List.dropWhile, h0, hf]
  rw [hdw]
  unfold frameObject
  refine wpAny_bind (wpAny_bind (wpAny_readyFrames_fun hl fun h₁ hs₁ => wpAny_pure ?_))
  rw [h0]
  refine wpAny_pure ?_
  refine wpAny_bind (wpAny_entryPlaceOf fun pl hpl => ?_)
  unfold EntryCells.newEntry newFields
  refine wpAny_bind (wpAny_newObj_type ?_ (hpl.sizeOk5 _ _ _ _ _))
  have he₁ : h₁.get? e = some oe := (hs₁.2.1 e hene).trans he
  have he₂ := Heap.get?_push_of_some (h := h₁) { cls := .type "traceback", dict := none, data := .fields ([Value.none, .ref L, .none, rawInt L, .none] ++ (if pl.isEmpty then List.replicate 6 Value.none else pl)).toArray } he₁
  refine wpAny_setField he₂ hd hsz ?_
  have hTe : h₁.objs.size ≠ e := Nat.ne_of_gt (Heap.lt_size he₁)
  have hd₃ := Obj.data_mapFields hd (·.setIfInBounds 1 (Value.ref h₁.objs.size))
  refine h _ ⟨_, _, h₁.objs.size, _, _, Heap.get?_update_self _ he₂ (Obj.isFreed_of_fields hd₃), Obj.cls_mapFields _ _, hd₃, by simp [hsz], Heap.get?_none_of_le (by rw [hs₁.1]; exact Nat.le_refl _), hTe,
      (Heap.get?_update_other _ _ (Ne.symm hTe)).trans (Heap.get?_push_size h₁ rfl), rfl, by simp only [List.size_toArray, List.length_append, List.length_cons, List.length_nil] <;> omega⟩ (fun b o hb hbe eb => ?_) fun b o hbe eb => ?_
  · rw [Heap.get?_update_other _ _ (Ne.symm hbe)]
    exact Heap.get?_push_of_some _ ((hs₁.2.1 b hb).trans eb)
  · obtain ⟨sl, hsl⟩ := hs₁.2.2 b o eb
    exact ⟨sl, by rw [Heap.get?_update_other _ _ (Ne.symm hbe)]; exact Heap.get?_push_of_some _ hsl⟩
end
theorem Rel.dropSlots {prog : Program} {w : World} {cc : Cls} {σ : List Int} {t : Heap} {fs : List (Addr × NsM)} {ρ : List Addr} {st : St} {h h' : Heap} (R : Rel prog w cc σ t fs ρ st h) {i : Nat} {o : MO} {a : Addr} (hi : st.H.get i = some o) (ha : ρ[i]? = some a)
    (k1 : ∀ b ob, b ∉ fs.map (·.1) → b ≠ a → h.get? b = some ob → h'.get? b = some ob) (k2 : ∀ b ob, b ≠ a → h.get? b = some ob → ∃ sl, h'.get? b = some { ob with slots := sl }) : Rel prog w cc σ t fs ρ (st.drop i) h' := by
  obtain ⟨a', ha', _, hoff, hfr, hlo⟩ := R.obj i o hi
  rw [ha] at ha'; cases ha'
  refine ⟨fun b ob e => k1 b ob (fun z => ?_) (fun z => ?_) (R.top b ob e), fun p hp => ⟨?_, (R.frs p hp).2⟩, R.fnd, R.len, fun j oj e => ?_, R.nl, fun j l oj ol b ej el hj hl => ?_, R.scr⟩
  · obtain ⟨p, hp, rfl⟩ := List.mem_map.mp z
    rw [(R.frs p hp).2] at e; cases e
  · rw [z, hoff] at e; cases e
  · obtain ⟨ob, es, ep, x, r⟩ := (R.frs p hp).1
    obtain ⟨sl, hs⟩ := k2 _ ob (hfr p hp) x
    exact ⟨_, es, ep, hs, r⟩
  · obtain ⟨hne, e'⟩ := St.drop_get e
    obtain ⟨b, hb, hA, hbt, hbf, r⟩ := R.obj j oj e'
    refine ⟨b, hb, hA.at fun ob eb => k1 b ob (fun z => ?_) (fun z => ?_) eb, hbt, hbf, r⟩
    · obtain ⟨p, hp, q⟩ := List.mem_map.mp z
      exact hbf p hp q
    · exact hne (R.inj j i oj o a e' hi (z ▸ hb) ha)
  · exact R.inj j l _ _ b (St.drop_get ej).2 (St.drop_get el).2 hj hl
noncomputable def noHandled (D : Desc) : Desc := { D with h := false }
theorem stop_base : isSubtype (.type "StopIteration") (.type "BaseException") = pure true := by rw [isSubtype_type]; kernel_rfl
theorem stop_meta : isSubtype (.type ((Manifest.find? "StopIteration").elim "type" fun x => x.metatype)) (.type "tuple") = pure false := by rw [isSubtype_type]; kernel_rfl
theorem stop_self : isSubtype (.type "StopIteration") (.type "StopIteration") = pure true := by rw [isSubtype_type]; kernel_rfl
section
variable {X : Cx} {D : Desc}
theorem Wd.marked {A : Around} {env : Env} {fs : List (Addr × NsM)} (W : Wd X D A env fs) (e : Value) : Wd X (noHandled D) (A.mark (some e)) env fs :=
  ⟨⟨W.ok.nd, W.ok.loc, W.ok.cel⟩, W.kind, W.names, W.glob, W.bltn, W.room, W.unit, fun h => (nomatch h), W.frm⟩
theorem Ok.asH {env : Env} {fs : List (Addr × NsM)} {s₀ : Shared} {ρ : List Addr} {fr : Frm} {st : St} {s : Shared} (O : Ok X D env fs s₀ ρ fr st s) : Ok X (noHandled D) env fs s₀ ρ fr st s := ⟨O.same, O.loc, O.cel⟩
theorem Ok.unH {env : Env} {fs : List (Addr × NsM)} {s₀ : Shared} {ρ : List Addr} {fr : Frm} {st : St} {s : Shared} (O : Ok X (noHandled D) env fs s₀ ρ fr st s) : Ok X D env fs s₀ ρ fr st s := ⟨O.same, O.loc, O.cel⟩
noncomputable def CallForm (oe : Expr) (pos : Pos) : Prop := ∀ env : Env, eval (.Call oe [] [] pos) env = (do callWith pos (← eval oe env) [] (backTo pos (starEach [] env)) (backToKw pos (keywordEach [] env)))
theorem sound_sTryNext {tg oe : Expr} {cp ap np hp pos : Pos} {o : ME} {t : Tgt} {body : List Stmt} {h0 : Stmt} {hs : List Stmt} {mb mh : MS} (G : Gd X) (hD : D.h = true) (ho : SoundE X D oe o) (ht : SoundTg X D tg t) (hb : SoundB X D body mb) (hh : SoundB X (noHandled D) (h0 :: hs) mh)
    (hc : CallForm oe cp) (hsw : ∀ line (env : Env), env.scope.names = D.names → swapsWithSole [tg] (.Call oe [] [] cp) line env = pure false) (hw : ∀ env, swappedStores [tg] (.Call oe [] [] cp) env = pure none) (hae : ∀ env, (assignEach [tg] env).map (·.2) = [assign tg env])
    (hk : nsIn X.K mainGlobals "StopIteration" = some none) (hx : D.names.lookup ("StopIteration" : Str) = some .globalImplicit) :
    SoundS X D (.Try (.Assign [tg] (.Call oe [] [] cp) ap :: body) [.ExceptHandler (some (.Name "StopIteration" np)) none (h0 :: hs) hp] [] [] pos) (sTryNext t o mb mh) := by
  intro A env fs s₀ ρ fr st s f fr' st' Q E W O e h
  unfold sTryNext at e
  split at e
  · rename_i i f1 s1 e1
    split at e
    · rename_i j hi
      refine wpAny_Try_except (wpAny_execs_cons (wpAny_Assign_stores (Call_ (ho W O e1 fun ρ1 v1 t1 x1 O1 a1 => ?_) (hc env)) (hsw _ _ W.names) (hw _)))
      obtain ⟨q, hq, rfl⟩ := a1
      obtain ⟨it, hit, hqo⟩ := O1.at hi hq
      refine callWith_of (P := fun h => h.get? q = some (wrapObj it)) rfl (fun hp hP => ⟨.machine, .inr (.inl rfl), (Looks.ld (part := none) hP).andThen .now⟩) (evalArgs_nil3 ⟨hqo, ?_⟩)
      rw [hae]
      unfold nextL at e
      split at e
      · cases e
      · rename_i y s2 e2
        split at e2
        · rename_i l k hj
          split at e2
          · rename_i xs hl
            split at e2
            · rename_i w hw'
              cases e2
              split at e
              · cases e
              · rename_i f2 s3 e3
                obtain ⟨la, hla, hit'⟩ := O1.at hj hit
                obtain ⟨va, ⟨na, pa⟩, qa⟩ := O1.at hl hla
                obtain ⟨u, hu, au⟩ := qa.get hw'
                refine wrap_item hqo hit' ⟨_, pa, rfl, _, rfl⟩ (by rw [← Array.getElem?_toList]; exact hu) fun h' hit2 hsame => ?_
                have O2 : Ok X D env fs s₀ ρ1 f1 (s1.put j (.liter l (k + 1))) { t1 with heap := h' } := O1.put (tk := t1.toks) hj hit (fun b ob hb eb => (hsame.2 b hb).trans eb) ⟨la, hla, hit2⟩
                show wpAny X.M A (assign tg env u) _ _ _
                refine ht W O2 au e3 fun ρ2 t2 x2 O3 => ?_
                refine hb W O3 e fun ρ3 g t3 x3 O4 a4 => ?_
                have fin := h ρ3 g t3 (x1.trans (x2.trans x3)) O4 a4
                cases g with
                | next => exact wpAny_execs_nil fin
                | brk => exact fin
                | cont => exact fin
                | ret v => exact fin
            · cases e2
          · cases e2
        · cases e2
      · rename_i s2 e2
        split at e2
        · rename_i l k hj
          split at e2
          · rename_i xs hl
            split at e2
            · cases e2
            · rename_i hw'
              cases e2
              obtain ⟨la, hla, hit'⟩ := O1.at hj hit
              obtain ⟨va, ⟨na, pa⟩, qa⟩ := O1.at hl hla
              have la' : xs.length = va.size := qa.length.trans Array.length_toList
              obtain ⟨e0, outer, hfr, hf0, hfe⟩ := W.frm
              obtain ⟨_, L, hL0, _⟩ := hfe e0 (List.mem_cons_self ..)
              refine wrap_end (W.hand hD) hqo hit' ⟨_, pa, rfl, _, rfl⟩ (by rw [Array.getElem?_eq_none_iff, ← la', ← List.getElem?_eq_none_iff]; exact hw') fun h' ex oe' vs hk1 hex hex' hcls hdat hv1 => ?_
              obtain ⟨sm, ⟨m, R, Lc⟩, Ce⟩ := O1
              have ff : ∀ b, b ∈ (e0 :: outer).filterMap (·.frame) → b ∈ ((env.locals, m) :: fs).map (·.1) := by
                intro b hb
                obtain ⟨ev, hev, hbe⟩ := List.mem_filterMap.mp hb
                obtain ⟨_, L', hL', hor⟩ := hfe ev hev
                rw [hL'] at hbe; cases hbe
                rcases hor with rfl | hor
                · exact List.mem_cons_self ..
                · exact List.mem_cons_of_mem _ hor
              have itf : ∀ p ∈ (env.locals, m) :: fs, p.1 ≠ it := by
                obtain ⟨a', ha', _, _, hfr', _⟩ := R.obj j _ hj
                rw [hit] at ha'; cases ha'
                exact hfr'
              have FF : ∀ (l : List Env), (∀ ev ∈ l, ev.scope.kind ≠ .module ∧ ∃ L, ev.frame = some L ∧ (L = env.locals ∨ L ∈ fs.map (·.1))) → h'.FunFrames ({} : Heap) l := by
                intro l
                induction l with
                | nil => exact fun _ => trivial
                | cons ev l ih =>
                  intro hh
                  obtain ⟨hkd, L', hL', hor⟩ := hh ev (List.mem_cons_self ..)
                  have hmem : L' ∈ ((env.locals, m) :: fs).map (·.1) := by
                    rcases hor with rfl | hor
                    · exact List.mem_cons_self ..
                    · exact List.mem_cons_of_mem _ hor
                  obtain ⟨p, hp, rfl⟩ := List.mem_map.mp hmem
                  obtain ⟨ob, es, ep, hob, hod, _⟩ := (R.frs p hp).1
                  exact ⟨hkd, ⟨p.1, ob, hL', rfl, hk1 _ _ (itf p hp) hob, fun vs z => by rw [hod] at z; cases z⟩, ih fun ev' hev' => hh ev' (List.mem_cons_of_mem _ hev')⟩
              refine note_mine (s := { t1 with heap := h' }) hfr hL0 (hf0 ▸ hL0) (FF _ hfe) hex' hdat hv1 fun h2 hexs hk2 hk3 => ?_
              obtain ⟨oe2, vs2, tb, otb, tvs, g1, g2, g3, g4, g5, g6, g7, g8, g9⟩ := hexs
              refine wpAny_setFlight_none g1 g3 g4 g7 g8 g9 ?_
              have g1' : (h2.update tb (Obj.mapFields (·.setIfInBounds 3 .none))).get? ex = some oe2 := (Heap.get?_update_other _ _ g6).trans g1
              have g8' := Obj.data_mapFields g8 (·.setIfInBounds 3 Value.none)
              have g7' : (h2.update tb (Obj.mapFields (·.setIfInBounds 3 .none))).get? tb = some (Obj.mapFields (·.setIfInBounds 3 .none) otb) := Heap.get?_update_self _ g7 (Obj.isFreed_of_fields g8')
              have Oa : ∀ h3 : Heap, (∀ b, b ≠ tb → h3.get? b = h2.get? b) → Ok X D env fs s₀ ρ1 f1 (s1.drop j) { t1 with heap := h3 } := by
                intro h3 k3
                have ne : ∀ b ob, t1.heap.get? b = some ob → b ≠ ex := fun b ob eb z => by rw [z, hex] at eb; cases eb
                refine ⟨by obtain ⟨hx1, tk1, rfl⟩ := sm; exact ⟨h3, tk1, rfl⟩, ⟨m, R.dropSlots hj hit (fun b ob hb hbi eb => ?_) fun b ob hbi eb => ?_, Lc⟩, Ce⟩
                · have e1 := hk1 b ob hbi eb
                  rw [k3 b fun z => by rw [z, g5] at e1; cases e1]
                  exact hk2 b ob (fun z => hb (ff b z)) (ne b ob eb) e1
                · have e1 := hk1 b ob hbi eb
                  rw [k3 b fun z => by rw [z, g5] at e1; cases e1]
                  exact hk3 b ob (ne b ob eb) e1
              have O5 := Oa _ fun b hb => Heap.get?_update_other h2 (Obj.mapFields (·.setIfInBounds 3 .none)) (Ne.symm hb)
              refine wpAny_handleBy_builtin stop_base stop_meta stop_self (b := true) ?_
              refine Name_function_global W.kind (by show env.scope.names.lookup ("StopIteration" : Str) = _; rw [W.names]; exact hx) (loadGlobal_builtin (by rw [W.glob]; exact G.g.keeps O5.top) (mg_none_of G.k G.g hk) (by rw [W.bltn]; exact G.b.keeps O5.top)
                ((G.builtins "StopIteration" (by decide)).trans (show _ = some (Value.type "StopIteration") by decide +kernel)) ⟨rfl, ⟨_, g1', g2.trans hcls⟩, ?_⟩) (by decide)
              rw [if_pos rfl]
              refine wpAny_setFlight_none g1' g3 g4 g7' g8' (by simpa using g9) ?_
              have O6 := Oa ((h2.update tb (Obj.mapFields (·.setIfInBounds 3 .none))).update tb (Obj.mapFields (·.setIfInBounds 3 .none))) fun b hb => (Heap.get?_update_other _ _ (Ne.symm hb)).trans (Heap.get?_update_other _ _ (Ne.symm hb))
              exact hh (W.marked _) O6.asH e fun ρ7 g t7 x7 O7 a7 => h ρ7 g t7 (x1.trans x7) O7.unH a7
          · cases e2
        · cases e2
    · cases e
  · cases e
end
end Mine

end
section
namespace Mine
open PySem PySem.W PyProof.Rows PySem.Calls

theorem pick_take (items : Array Value) (b : Nat) : slicePick items none (some (b : Int)) none = (items.toList.take b).toArray := by
  by_cases h : b ≤ items.size
  · exact slicePick_upto items b h
  · have e : sliceBounds none (some (b : Int)) none items.size = sliceBounds none (some (items.size : Int)) none items.size := by
      simp only [sliceBounds, Option.getD_none]
      have h2 : ¬ ((b : Int) < 0) := by omega
      have h3 : ¬ ((items.size : Int) < 0) := by omega
      simp only [h2, h3, if_false, show (1 : Int) > 0 by decide, if_true]
      congr 1
      congr 1; omega
    have := slicePick_upto items items.size (Nat.le_refl _)
    unfold slicePick at this ⊢
    rw [e, this]
    rw [List.take_of_length_le (by simp), List.take_of_length_le (by simp; omega)]
section
variable {prog : Program} {w : World} {A : Around} {E : Value → Shared → Prop} {s : Shared} {env : Env}
theorem slice_any {value upper : Expr} {p pos : Pos} {Q : Value → Shared → Prop}
    (h : wpAny (model prog w) A (eval value env) (fun o s₁ => wpAny (model prog w) A (eval upper env) (fun vu s₂ =>
      ∃ l items, ∃ b : Nat, ∃ t, o = .ref l ∧ s₂.heap.IsList l items ∧ items.size ≤ sizeLine ∧ vu = .int (b : Int) t ∧
        Q (.ref (s₂.heap.objs.size + 1)) { s₂ with heap := (s₂.heap.push { cls := .type "slice", data := .fields #[.none, vu, .none] }).push { cls := .type "list", data := .seq (items.toList.take b).toArray } }) E s₁) E s) :
    wpAny (model prog w) A (eval (.Subscript value (.Slice none (some upper) none p) pos) env) Q E s := by
  refine Subscript_ (wpAny_mono h (fun o s₁ h₁ => wpAny_Slice ?_) fun _ _ e => e)
  rw [evalPart_none]
  refine wpAny_pure ?_
  rw [evalPart_some]
  refine wpAny_mono h₁ (fun vu s₂ h₂ => ?_) fun _ _ e => e
  refine wpAny_pure ?_
  obtain ⟨l, items, b, t, rfl, hl, hsz, rfl, hQ⟩ := h₂
  refine tail_any (hl.push _).typeIs slot_list_getitem.lookup (wpAny_getItem_list_slice (hl.push _) (Heap.IsSliceOf.new ..) .none (.int _ _) .none (by simp) ?_ hsz) rfl
  rw [Heap.size_push, pick_take]
  exact hQ
end
noncomputable def consts6 : List MV := [.int (.k 7), .int (.k (-3)), .int (.k 2), .int (.k 5), .int (.k 11), .int (.k 1)]
structure ScrOk (X : Cx) (ob : Or) : Prop where
  scr : ∃ items : Array Value, X.t.IsList X.cc.S items ∧ items.size ≤ 63 ∧ (∀ ρ, AbsVs X.σ ρ ob.z2 (items.toList.take 2)) ∧
    ∀ ρ vs, AbsVs X.σ ρ consts6 vs → AbsVs X.σ ρ ob.zs ((items.toList.take 6 ++ vs).take ob.zs.length)
section
variable {X : Cx} {D : Desc}
theorem Ok.scr {env : Env} {fs : List (Addr × NsM)} {s₀ : Shared} {ρ : List Addr} {fr : Frm} {st : St} {s : Shared} (O : Ok X D env fs s₀ ρ fr st s) : ρ[0]? = some X.cc.S := let ⟨_, R⟩ := O.rel; R.scr
theorem sound_eTop {ob : Or} (Z : ScrOk X ob) {se : Expr} {a : ME} (k : Nat) (p1 p pos : Pos) (ha : SoundE X D se a) : SoundE X D (.Subscript se (.Slice none (some (.Constant (.int 2) k p1)) none p) pos) (eTop ob.z2 a) := by
  intro A env fs s₀ ρ fr st s v fr' st' Q E W O e h
  obtain ⟨items, hL, hsz, h2, _⟩ := Z.scr
  unfold eTop at e
  split at e
  · rename_i i f1 s1 e1
    split at e
    · rename_i hi
      cases e
      have hi := Nat.eq_of_beq_eq_true hi
      subst hi
      refine slice_any (ha W O e1 fun ρ1 x' t1 x1 O1 a1 => wpAny_Constant_int ?_)
      obtain ⟨q, hq, rfl⟩ := a1
      rw [O1.scr] at hq; cases hq
      have := line_big
      have hL1 : t1.heap.IsList X.cc.S items := by obtain ⟨o, ho, r⟩ := hL; exact ⟨o, O1.top _ _ ho, r⟩
      refine ⟨_, items, 2, _, rfl, hL1, by omega, rfl, ?_⟩
      have O2 : Ok X D env fs s₀ ρ1 fr' s1 { t1 with toks := t1.toks + 1, heap := t1.heap.push { cls := .type "slice", data := .fields #[.none, .int 2 t1.toks, .none] } } := (O1.tok (tk := t1.toks + 1)).grown (tk := t1.toks + 1) fun b ob eb => Heap.get?_push_of_some _ eb
      have O3 := O2.new (tk := t1.toks + 1) (o := .list ob.z2) (h' := (t1.heap.push { cls := .type "slice", data := .fields #[.none, .int 2 t1.toks, .none] }).push { cls := .type "list", data := .seq (items.toList.take 2).toArray }) (fun b ob eb => Heap.get?_push_of_some _ eb) ⟨_, ⟨0, Heap.get?_push_size _ rfl⟩, h2 _⟩
      have nv := O2.newV (t1.heap.push { cls := .type "slice", data := .fields #[.none, .int 2 t1.toks, .none] }).objs.size
      rw [← Heap.size_push t1.heap { cls := .type "slice", data := .fields #[.none, .int 2 t1.toks, .none] }]
      exact h _ _ _ (x1.trans (Ext.snoc _ _)) O3 nv
    · cases e
  · cases e
/-- an expression that is a written int -/
noncomputable def ConstE (X : Cx) (e : Expr) (i : Int) : Prop := ∀ {A : Around} {env : Env} {s : Shared} {Q : Value → Shared → Prop} {E : Value → Shared → Prop}, (∀ t tk, Q (.int i t) { s with toks := tk }) → wpAny X.M A (eval e env) Q E s
theorem constE_int (i : Int) (k : Nat) (p : Pos) : ConstE X (.Constant (.int i) k p) i := fun h => wpAny_Constant_int (h _ _)
theorem constE_neg (i : Int) (k : Nat) (p q : Pos) : ConstE X (.UnaryOp .USub (.Constant (.int i) k p) q) (-i) := fun h => wpAny_UnaryOp (wpAny_Constant_int (PyProof.Rows.neg_int (h _ _)))
noncomputable def ConstL (X : Cx) : List Expr → List Int → Prop
  | [], [] => True
  | l :: ls, i :: is => ConstE X l i ∧ (∀ env rest, starEach (l :: rest) env = (false, eval l env) :: starEach rest env) ∧ ConstL X ls is
  | _, _ => False
theorem const_all (pos : Pos) : ∀ {ls : List Expr} {is : List Int}, ConstL X ls is → ∀ {A : Around} {env : Env} {s : Shared} {Q : List Value → Shared → Prop} {E : Value → Shared → Prop},
    (∀ vs tk, (∀ σ ρ, AbsVs σ ρ (is.map fun i => .int (.k i)) vs) → Q vs { s with toks := tk }) → wpAny X.M A (spliced (backTo pos (starEach ls env))) Q E s
  | [], [], _, A, env, s, Q, E, h => wpAny_items_nil (h [] s.toks fun _ _ => trivial)
  | l :: ls, i :: is, ⟨hl, hs, hr⟩, A, env, s, Q, E, h => wpAny_items_cons (hl fun t tk => const_all pos hr fun vs tk' hv => h _ tk' fun σ ρ => ⟨⟨t, rfl⟩, hv σ ρ⟩) (hs env _)
  | [], _ :: _, h, _, _, _, _, _, _ => h.elim
  | _ :: _, [], h, _, _, _, _, _, _ => h.elim
/-- an expression whose evaluation touches nothing -/
noncomputable def PureE (X : Cx) (D : Desc) (e : Expr) (me : ME) : Prop :=
  ∀ {A : Around} {env : Env} {fs : List (Addr × NsM)} {s₀ : Shared} {ρ : List Addr} {fr : Frm} {st : St} {s : Shared} {v : MV} {fr' : Frm} {st' : St} {Q : Value → Shared → Prop} {E : Value → Shared → Prop},
    Wd X D A env fs → Ok X D env fs s₀ ρ fr st s → me fr st = some (v, fr', st') → fr' = fr ∧ st' = st ∧ ((∀ v', AbsV X.σ ρ v v' → Q v' s) → wpAny X.M A (eval e env) Q E s)
theorem pure_cel {x : Str} (j : Nat) (pos : Pos) (hx : D.cs[j]? = some x) : PureE X D (.Name x pos) (eCel j) := by
  intro A env fs s₀ ρ fr st s v fr' st' Q E W O e
  unfold eCel at e
  split at e
  · rename_i i ei
    split at e
    · rename_i v' ev
      cases e
      refine ⟨rfl, rfl, fun h => ?_⟩
      obtain ⟨y, a, h1, h2, h3⟩ := O.cel j i ei
      rw [hx] at h1; cases h1
      obtain ⟨o, u, g1, g2, u', rfl, g3⟩ := O.at ev h2
      obtain ⟨hl, hd, hc⟩ := W.ok.cel x (mem_of_get hx)
      have hk : env.kindOf x = D.names.lookup x := by show env.scope.names.lookup x = _; rw [W.names]
      rcases hl with hl | hl
      · exact wpAny_Name (wpAny_loadName_cell W.kind (hk.trans hl) h3 ⟨o, g1, g2⟩ (h _ g3)) hd
      · exact wpAny_Name (wpAny_loadName_free W.kind (hk.trans hl) h3 ⟨o, g1, g2⟩ (h _ g3) hc) hd
    · cases e
  · cases e
theorem sound_eVals {ob : Or} (Z : ScrOk X ob) {se ne : Expr} {a n : ME} {cs : List Expr} (k : Nat) (p1 p2 p3 p4 p5 p6 pos : Pos) (ha : SoundE X D se a) (hn : PureE X D ne n) (hc : ConstL X cs [7, -3, 2, 5, 11, 1]) :
    SoundE X D (.Subscript (.BinOp (.Subscript se (.Slice none (some (.Constant (.int 6) k p1)) none p2) p3) .Add (.List cs p4) p5) (.Slice none (some ne) none p6) pos) (eVals ob.zs a n) := by
  intro A env fs s₀ ρ fr st s v fr' st' Q E W O e h
  obtain ⟨items, hL, hsz, _, h6⟩ := Z.scr
  have hline := line_big
  unfold eVals at e
  split at e
  · rename_i i f1 s1 e1
    split at e
    · rename_i hi
      have hi := Nat.eq_of_beq_eq_true hi
      subst hi
      split at e
      · rename_i c f2 s2 e2
        split at e
        · rename_i hcl
          cases e
          have hcl := of_decide_eq_true hcl
          refine slice_any (wpAny_BinOp (slice_any (ha W O e1 fun ρ1 x' t1 x1 O1 a1 => wpAny_Constant_int ?_)))
          obtain ⟨q, hq, rfl⟩ := a1
          rw [O1.scr] at hq; cases hq
          have hL1 : t1.heap.IsList X.cc.S items := by obtain ⟨o, ho, r⟩ := hL; exact ⟨o, O1.top _ _ ho, r⟩
          refine ⟨_, items, 6, _, rfl, hL1, by omega, rfl, List_ (const_all p4 hc fun vs tk hv => ?_)⟩
          have hvl : consts6.length = vs.length := (hv X.σ ρ1).length
          have hvl : vs.length = 6 := hvl.symm
          refine wpAny_newObj_type ?_ (by show vs.toArray.size ≤ sizeLine; rw [List.size_toArray]; omega)
          generalize hH1 : (t1.heap.push { cls := .type "slice", data := .fields #[.none, .int 6 t1.toks, .none] }).push { cls := .type "list", data := .seq (items.toList.take 6).toArray } = H1
          have g0 : H1.get? (t1.heap.objs.size + 1) = some { cls := .type "list", data := .seq (items.toList.take 6).toArray } := by
            rw [← hH1, ← Heap.size_push t1.heap { cls := .type "slice", data := .fields #[.none, .int 6 t1.toks, .none] }]
            exact Heap.get?_push_size _ rfl
          have k0 : ∀ b ob, t1.heap.get? b = some ob → H1.get? b = some ob := fun b ob eb => by rw [← hH1]; exact Heap.get?_push_of_some _ (Heap.get?_push_of_some _ eb)
          have g1 := Heap.get?_push_of_some { cls := .type "list", data := .seq vs.toArray } g0
          have g2 : (H1.push { cls := .type "list", data := .seq vs.toArray }).get? H1.objs.size = some { cls := .type "list", data := .seq vs.toArray } := Heap.get?_push_size _ rfl
          have hle : (items.toList.take 6).length ≤ 6 := by rw [List.length_take]; omega
          refine P.add_list (s := { t1 with heap := H1.push { cls := .type "list", data := .seq vs.toArray }, toks := tk }) g1 g2 ?_ (by simp only [List.size_toArray]; omega)
          generalize hH2 : (H1.push { cls := .type "list", data := .seq vs.toArray }) = H2 at g1 g2
          have k2 : ∀ b ob, t1.heap.get? b = some ob → H2.get? b = some ob := fun b ob eb => by rw [← hH2]; exact Heap.get?_push_of_some _ (k0 b ob eb)
          generalize hH3 : H2.push { cls := .type "list", data := .seq ((items.toList.take 6).toArray ++ vs.toArray) } = H3
          have g3 : H3.get? H2.objs.size = some { cls := .type "list", data := .seq ((items.toList.take 6).toArray ++ vs.toArray) } := by rw [← hH3]; exact Heap.get?_push_size _ rfl
          have k3 : ∀ b ob, t1.heap.get? b = some ob → H3.get? b = some ob := fun b ob eb => by rw [← hH3]; exact Heap.get?_push_of_some _ (k2 b ob eb)
          have O3 : Ok X D env fs s₀ ρ1 f1 s1 { t1 with heap := H3, toks := tk } := O1.grown (tk := tk) k3
          obtain ⟨rfl, rfl, hev⟩ := hn (s := { t1 with heap := H3, toks := tk }) (E := E) W O3 e2
          refine hev fun v' hv' => ?_
          obtain ⟨tc, rfl⟩ := hv'
          refine ⟨_, _, ob.zs.length, tc, rfl, ⟨_, g3, rfl, _, rfl⟩, by simp only [Array.size_append, List.size_toArray]; omega, ?_, ?_⟩
          · rw [show Mine.Z.den X.σ (.k c) = c from rfl, hcl]
          · have O4 : Ok X D env fs s₀ ρ1 fr' s2 { t1 with heap := H3.push { cls := .type "slice", data := .fields #[.none, .int (Mine.Z.den X.σ (.k c)) tc, .none] }, toks := tk } := O3.grown (tk := tk) fun b ob eb => Heap.get?_push_of_some _ eb
            have O5 := O4.new (tk := tk) (o := .list ob.zs) (h' := (H3.push { cls := .type "slice", data := .fields #[.none, .int (Mine.Z.den X.σ (.k c)) tc, .none] }).push { cls := .type "list", data := .seq (((items.toList.take 6).toArray ++ vs.toArray).toList.take ob.zs.length).toArray }) (fun b ob eb => Heap.get?_push_of_some _ eb)
              ⟨_, ⟨0, Heap.get?_push_size _ rfl⟩, by
                have := h6 (ρ1 ++ [(H3.push { cls := .type "slice", data := .fields #[.none, .int (Mine.Z.den X.σ (.k c)) tc, .none] }).objs.size]) vs (hv _ _)
                simpa using this⟩
            have nv := O4.newV (H3.push { cls := .type "slice", data := .fields #[.none, .int (Mine.Z.den X.σ (.k c)) tc, .none] }).objs.size
            rw [← Heap.size_push H3 { cls := .type "slice", data := .fields #[.none, .int (Mine.Z.den X.σ (.k c)) tc, .none] }]
            exact h _ _ _ (x1.trans (Ext.snoc _ _)) O5 nv
        · cases e
      · cases e
    · cases e
  · cases e
end
end Mine

end
section
namespace Mine
open PySem PySem.W PyProof.Rows
noncomputable def nth : List Stmt → Nat → Stmt
  | [], _ => .Pass default
  | s :: _, 0 => s
  | _ :: r, n + 1 => nth r n
noncomputable def stA (n : Nat) : Stmt := nth PySem.Challenge.pw_mq0330_01.main.body n
noncomputable def stIn (s : Stmt) (n : Nat) : Stmt := match s with
  | .ClassDef _ _ _ body _ _ _ _ _ _ _ => nth body n
  | _ => .Pass default
noncomputable def fnO (s : Stmt) (q : Str) (m : Value) (c : Addr) (d : Value) : Obj := match s with
  | .FunctionDef name params body _ _ _ scope _ _ _ => { cls := .type "function", data := .func { name, qualname := q, params, body := .stmts body, scope, globals := mainGlobals, closure := [], defaults := d, kwdefaults := .none, pyModule := m, code := .ref c, builtins := builtinsNs } }
  | _ => { cls := .none, data := .plain }
noncomputable def ob2 (P : Params) : Obj := { cls := Value.none, data := Data.dict #[] }
noncomputable def ob3 (P : Params) : Obj := { cls := Value.type "dict", data := Data.dict #[{ hash := PyData.keyHash P (Str.ofString "__name__"), key := Value.str (Str.ofString "__name__") 165, val := Value.str (Str.ofString "law_mq0330_01") 449 }, { hash := PyData.keyHash P (Str.ofString "__doc__"), key := Value.str (Str.ofString "__doc__") 166, val := Value.none }, { hash := PyData.keyHash P (Str.ofString "__package__"), key := Value.str (Str.ofString "__package__") 167, val := Value.none }, { hash := PyData.keyHash P (Str.ofString "__loader__"), key := Value.str (Str.ofString "__loader__") 168, val := Value.builtin "__main__.__loader__#opaque" }, { hash := PyData.keyHash P (Str.ofString "__spec__"), key := Value.str (Str.ofString "__spec__") 169, val := Value.none }, { hash := PyData.keyHash P (Str.ofString "__annotations__"), key := Value.str (Str.ofString "__annotations__") 170, val := Value.ref 6 }, { hash := PyData.keyHash P (Str.ofString "__builtins__"), key := Value.str (Str.ofString "__builtins__") 171, val := Value.ref 4 }, { hash := PyData.keyHash P (Str.ofString "__file__"), key := Value.str (Str.ofString "__file__") 173, val := Value.str (Str.ofString "/claim/cut.py") 172 }, { hash := PyData.keyHash P (Str.ofString "__cached__"), key := Value.str (Str.ofString "__cached__") 174, val := Value.none }, { hash := PyData.keyHash P (Str.ofString "_wall"), key := Value.str (Str.ofString "_wall") 193, val := Value.ref 21 }, { hash := PyData.keyHash P (Str.ofString "truth"), key := Value.str (Str.ofString "truth") 202, val := Value.ref 28 }, { hash := PyData.keyHash P (Str.ofString "add"), key := Value.str (Str.ofString "add") 210, val := Value.ref 35 }, { hash := PyData.keyHash P (Str.ofString "and_"), key := Value.str (Str.ofString "and_") 218, val := Value.ref 42 }, { hash := PyData.keyHash P (Str.ofString "lshift"), key := Value.str (Str.ofString "lshift") 226, val := Value.ref 49 }, { hash := PyData.keyHash P (Str.ofString "mul"), key := Value.str (Str.ofString "mul") 234, val := Value.ref 56 }, { hash := PyData.keyHash P (Str.ofString "neg"), key := Value.str (Str.ofString "neg") 241, val := Value.ref 63 }, { hash := PyData.keyHash P (Str.ofString "or_"), key := Value.str (Str.ofString "or_") 249, val := Value.ref 70 }, { hash := PyData.keyHash P (Str.ofString "getitem"), key := Value.str (Str.ofString "getitem") 257, val := Value.ref 77 }, { hash := PyData.keyHash P (Str.ofString "setitem"), key := Value.str (Str.ofString "setitem") 266, val := Value.ref 84 }, { hash := PyData.keyHash P (Str.ofString "_NODE_OUT"), key := Value.str (Str.ofString "_NODE_OUT") 271, val := Value.int (-1) 270 }, { hash := PyData.keyHash P (Str.ofString "_NODE_DONE"), key := Value.str (Str.ofString "_NODE_DONE") 274, val := Value.int (-2) 273 }, { hash := PyData.keyHash P (Str.ofString "_NodeInfo"), key := Value.str (Str.ofString "_NodeInfo") 311, val := Value.ref 103 }, { hash := PyData.keyHash P (Str.ofString "CycleError"), key := Value.str (Str.ofString "CycleError") 329, val := Value.ref 118 }, { hash := PyData.keyHash P (Str.ofString "TopologicalSorter"), key := Value.str (Str.ofString "TopologicalSorter") 448, val := Value.ref 200 }, { hash := PyData.keyHash P (Str.ofString "_law_needs"), key := Value.str (Str.ofString "_law_needs") 456, val := Value.ref 209 }, { hash := PyData.keyHash P (Str.ofString "_law_order"), key := Value.str (Str.ofString "_law_order") 468, val := Value.ref 216 }, { hash := PyData.keyHash P (Str.ofString "_law_table"), key := Value.str (Str.ofString "_law_table") 474, val := Value.ref 221 }, { hash := PyData.keyHash P (Str.ofString "_law_under"), key := Value.str (Str.ofString "_law_under") 480, val := Value.ref 226 }, { hash := PyData.keyHash P (Str.ofString "_law_chains"), key := Value.str (Str.ofString "_law_chains") 486, val := Value.ref 231 }, { hash := PyData.keyHash P (Str.ofString "_law_back"), key := Value.str (Str.ofString "_law_back") 496, val := Value.ref 238 }, { hash := PyData.keyHash P (Str.ofString "law"), key := Value.str (Str.ofString "law") 502, val := Value.ref 243 }] 31 }
noncomputable def ob27 (P : Params) : Obj := { cls := Value.type "code", data := Data.fields #[Value.str (Str.ofString "truth") 196, Value.str (Str.ofString "truth") 197, Value.str (Str.ofString "/claim/cut.py") 198, Value.int 5 0, Value.int 1 0, Value.int 0 0, Value.int 0 0, Value.int 3 0, Value.ref 22, Value.bool true, Value.int 181 0, Value.ref 23, Value.none, Value.ref 24, Value.ref 25, Value.ref 26, Value.int 200 0, Value.int 5 0, Value.str (Str.ofString "/claim/cut.py") 201] }
noncomputable def ob28 (P : Params) : Obj := fnO (stA 2) (Str.ofString "truth") (Value.str (Str.ofString "cpy313.operator") 194) 27 (Value.none)
noncomputable def ob34 (P : Params) : Obj := { cls := Value.type "code", data := Data.fields #[Value.str (Str.ofString "add") 203, Value.str (Str.ofString "add") 204, Value.str (Str.ofString "/claim/cut.py") 205, Value.int 7 0, Value.int 2 0, Value.int 0 0, Value.int 0 0, Value.int 3 0, Value.ref 29, Value.bool true, Value.int 181 0, Value.ref 30, Value.none, Value.ref 31, Value.ref 32, Value.ref 33, Value.int 208 0, Value.int 7 0, Value.str (Str.ofString "/claim/cut.py") 209] }
noncomputable def ob35 (P : Params) : Obj := fnO (stA 3) (Str.ofString "add") (Value.str (Str.ofString "cpy313.operator") 194) 34 (Value.none)
noncomputable def ob41 (P : Params) : Obj := { cls := Value.type "code", data := Data.fields #[Value.str (Str.ofString "and_") 211, Value.str (Str.ofString "and_") 212, Value.str (Str.ofString "/claim/cut.py") 213, Value.int 9 0, Value.int 2 0, Value.int 0 0, Value.int 0 0, Value.int 3 0, Value.ref 36, Value.bool true, Value.int 181 0, Value.ref 37, Value.none, Value.ref 38, Value.ref 39, Value.ref 40, Value.int 216 0, Value.int 9 0, Value.str (Str.ofString "/claim/cut.py") 217] }
noncomputable def ob42 (P : Params) : Obj := fnO (stA 4) (Str.ofString "and_") (Value.str (Str.ofString "cpy313.operator") 194) 41 (Value.none)
noncomputable def ob48 (P : Params) : Obj := { cls := Value.type "code", data := Data.fields #[Value.str (Str.ofString "lshift") 219, Value.str (Str.ofString "lshift") 220, Value.str (Str.ofString "/claim/cut.py") 221, Value.int 11 0, Value.int 2 0, Value.int 0 0, Value.int 0 0, Value.int 3 0, Value.ref 43, Value.bool true, Value.int 181 0, Value.ref 44, Value.none, Value.ref 45, Value.ref 46, Value.ref 47, Value.int 224 0, Value.int 11 0, Value.str (Str.ofString "/claim/cut.py") 225] }
noncomputable def ob49 (P : Params) : Obj := fnO (stA 5) (Str.ofString "lshift") (Value.str (Str.ofString "cpy313.operator") 194) 48 (Value.none)
noncomputable def ob55 (P : Params) : Obj := { cls := Value.type "code", data := Data.fields #[Value.str (Str.ofString "mul") 227, Value.str (Str.ofString "mul") 228, Value.str (Str.ofString "/claim/cut.py") 229, Value.int 13 0, Value.int 2 0, Value.int 0 0, Value.int 0 0, Value.int 3 0, Value.ref 50, Value.bool true, Value.int 181 0, Value.ref 51, Value.none, Value.ref 52, Value.ref 53, Value.ref 54, Value.int 232 0, Value.int 13 0, Value.str (Str.ofString "/claim/cut.py") 233] }
noncomputable def ob56 (P : Params) : Obj := fnO (stA 6) (Str.ofString "mul") (Value.str (Str.ofString "cpy313.operator") 194) 55 (Value.none)
noncomputable def ob62 (P : Params) : Obj := { cls := Value.type "code", data := Data.fields #[Value.str (Str.ofString "neg") 235, Value.str (Str.ofString "neg") 236, Value.str (Str.ofString "/claim/cut.py") 237, Value.int 15 0, Value.int 1 0, Value.int 0 0, Value.int 0 0, Value.int 3 0, Value.ref 57, Value.bool true, Value.int 181 0, Value.ref 58, Value.none, Value.ref 59, Value.ref 60, Value.ref 61, Value.int 239 0, Value.int 15 0, Value.str (Str.ofString "/claim/cut.py") 240] }
noncomputable def ob63 (P : Params) : Obj := fnO (stA 7) (Str.ofString "neg") (Value.str (Str.ofString "cpy313.operator") 194) 62 (Value.none)
noncomputable def ob69 (P : Params) : Obj := { cls := Value.type "code", data := Data.fields #[Value.str (Str.ofString "or_") 242, Value.str (Str.ofString "or_") 243, Value.str (Str.ofString "/claim/cut.py") 244, Value.int 17 0, Value.int 2 0, Value.int 0 0, Value.int 0 0, Value.int 3 0, Value.ref 64, Value.bool true, Value.int 181 0, Value.ref 65, Value.none, Value.ref 66, Value.ref 67, Value.ref 68, Value.int 247 0, Value.int 17 0, Value.str (Str.ofString "/claim/cut.py") 248] }
noncomputable def ob70 (P : Params) : Obj := fnO (stA 8) (Str.ofString "or_") (Value.str (Str.ofString "cpy313.operator") 194) 69 (Value.none)
noncomputable def ob76 (P : Params) : Obj := { cls := Value.type "code", data := Data.fields #[Value.str (Str.ofString "getitem") 250, Value.str (Str.ofString "getitem") 251, Value.str (Str.ofString "/claim/cut.py") 252, Value.int 19 0, Value.int 2 0, Value.int 0 0, Value.int 0 0, Value.int 3 0, Value.ref 71, Value.bool true, Value.int 181 0, Value.ref 72, Value.none, Value.ref 73, Value.ref 74, Value.ref 75, Value.int 255 0, Value.int 19 0, Value.str (Str.ofString "/claim/cut.py") 256] }
noncomputable def ob77 (P : Params) : Obj := fnO (stA 9) (Str.ofString "getitem") (Value.str (Str.ofString "cpy313.operator") 194) 76 (Value.none)
noncomputable def ob83 (P : Params) : Obj := { cls := Value.type "code", data := Data.fields #[Value.str (Str.ofString "setitem") 258, Value.str (Str.ofString "setitem") 259, Value.str (Str.ofString "/claim/cut.py") 260, Value.int 21 0, Value.int 3 0, Value.int 0 0, Value.int 0 0, Value.int 3 0, Value.ref 78, Value.bool true, Value.int 181 0, Value.ref 79, Value.none, Value.ref 80, Value.ref 81, Value.ref 82, Value.int 264 0, Value.int 21 0, Value.str (Str.ofString "/claim/cut.py") 265] }
noncomputable def ob84 (P : Params) : Obj := fnO (stA 10) (Str.ofString "setitem") (Value.str (Str.ofString "cpy313.operator") 194) 83 (Value.none)
noncomputable def ob98 (P : Params) : Obj := { cls := Value.type "code", data := Data.fields #[Value.str (Str.ofString "__init__") 291, Value.str (Str.ofString "_NodeInfo.__init__") 292, Value.str (Str.ofString "/claim/cut.py") 293, Value.int 29 0, Value.int 2 0, Value.int 0 0, Value.int 0 0, Value.int 3 0, Value.ref 93, Value.bool true, Value.int 181 0, Value.ref 94, Value.none, Value.ref 95, Value.ref 96, Value.ref 97, Value.int 296 0, Value.int 29 0, Value.str (Str.ofString "/claim/cut.py") 297] }
noncomputable def ob99 (P : Params) : Obj := fnO (stIn (stA 14) 1) (Str.ofString "_NodeInfo.__init__") (Value.str (Str.ofString "cpy313.graphlib") 267) 98 (Value.none)
noncomputable def ob102 (P : Params) : Obj := { cls := Value.type "dict", data := Data.dict #[{ hash := PyData.keyHash P (Str.ofString "__module__"), key := Value.str (Str.ofString "__module__") 282, val := Value.str (Str.ofString "cpy313.graphlib") 267 }, { hash := PyData.keyHash P (Str.ofString "__firstlineno__"), key := Value.str (Str.ofString "__firstlineno__") 286, val := Value.int 26 285 }, { hash := PyData.keyHash P (Str.ofString "__slots__"), key := Value.str (Str.ofString "__slots__") 290, val := Value.ref 92 }, { hash := PyData.keyHash P (Str.ofString "__init__"), key := Value.str (Str.ofString "__init__") 298, val := Value.ref 99 }, { hash := PyData.keyHash P (Str.ofString "__static_attributes__"), key := Value.str (Str.ofString "__static_attributes__") 302, val := Value.ref 100 }, { hash := PyData.keyHash P (Str.ofString "node"), key := Value.str (Str.ofString "node") 304, val := Value.ref 104 }, { hash := PyData.keyHash P (Str.ofString "npredecessors"), key := Value.str (Str.ofString "npredecessors") 306, val := Value.ref 105 }, { hash := PyData.keyHash P (Str.ofString "successors"), key := Value.str (Str.ofString "successors") 308, val := Value.ref 106 }, { hash := PyData.keyHash P (Str.ofString "__doc__"), key := Value.str (Str.ofString "__doc__") 309, val := Value.none }] 5 }
noncomputable def ob103 (P : Params) : Obj := { cls := Value.type "type", data := Data.cls { name := Str.ofString "_NodeInfo", bases := [Value.type "object"], mro := [Value.ref 103, Value.type "object"], ns := 102, qualname := Str.ofString "_NodeInfo", hasDict := false, slotNames := [Str.ofString "node", Str.ofString "npredecessors", Str.ofString "successors"] }, slots := #[none, none, some (Value.str (Str.ofString "_NodeInfo") 275), some (Value.str (Str.ofString "_NodeInfo") 283), some (Value.builtin "object.__new__"), some (Value.bool false)] }
noncomputable def ob104 (P : Params) : Obj := { cls := Value.type "member_descriptor", data := Data.fields #[Value.str (Str.ofString "node") 303, Value.ref 103, Value.builtin "proto.slot", Value.builtin "proto.slot#set", Value.int 2 0] }
noncomputable def ob105 (P : Params) : Obj := { cls := Value.type "member_descriptor", data := Data.fields #[Value.str (Str.ofString "npredecessors") 305, Value.ref 103, Value.builtin "proto.slot", Value.builtin "proto.slot#set", Value.int 1 0] }
noncomputable def ob106 (P : Params) : Obj := { cls := Value.type "member_descriptor", data := Data.fields #[Value.str (Str.ofString "successors") 307, Value.ref 103, Value.builtin "proto.slot", Value.builtin "proto.slot#set", Value.int 0 0] }
noncomputable def ob129 (P : Params) : Obj := { cls := Value.type "tuple", data := Data.seq #[Value.none] }
noncomputable def ob135 (P : Params) : Obj := { cls := Value.type "code", data := Data.fields #[Value.str (Str.ofString "__init__") 342, Value.str (Str.ofString "TopologicalSorter.__init__") 343, Value.str (Str.ofString "/claim/cut.py") 344, Value.int 37 0, Value.int 2 0, Value.int 0 0, Value.int 0 0, Value.int 3 0, Value.ref 130, Value.bool true, Value.int 181 0, Value.ref 131, Value.none, Value.ref 132, Value.ref 133, Value.ref 134, Value.int 349 0, Value.int 37 0, Value.str (Str.ofString "/claim/cut.py") 350] }
noncomputable def ob136 (P : Params) : Obj := fnO (stIn (stA 16) 0) (Str.ofString "TopologicalSorter.__init__") (Value.str (Str.ofString "cpy313.graphlib") 267) 135 (Value.ref 129)
noncomputable def ob142 (P : Params) : Obj := { cls := Value.type "code", data := Data.fields #[Value.str (Str.ofString "_get_nodeinfo") 352, Value.str (Str.ofString "TopologicalSorter._get_nodeinfo") 353, Value.str (Str.ofString "/claim/cut.py") 354, Value.int 46 0, Value.int 2 0, Value.int 0 0, Value.int 0 0, Value.int 3 0, Value.ref 137, Value.bool true, Value.int 181 0, Value.ref 138, Value.none, Value.ref 139, Value.ref 140, Value.ref 141, Value.int 358 0, Value.int 46 0, Value.str (Str.ofString "/claim/cut.py") 359] }
noncomputable def ob143 (P : Params) : Obj := fnO (stIn (stA 16) 1) (Str.ofString "TopologicalSorter._get_nodeinfo") (Value.str (Str.ofString "cpy313.graphlib") 267) 142 (Value.none)
noncomputable def ob149 (P : Params) : Obj := { cls := Value.type "code", data := Data.fields #[Value.str (Str.ofString "add") 361, Value.str (Str.ofString "TopologicalSorter.add") 362, Value.str (Str.ofString "/claim/cut.py") 363, Value.int 51 0, Value.int 2 0, Value.int 0 0, Value.int 0 0, Value.int 7 0, Value.ref 144, Value.bool true, Value.int 181 0, Value.ref 145, Value.none, Value.ref 146, Value.ref 147, Value.ref 148, Value.int 370 0, Value.int 51 0, Value.str (Str.ofString "/claim/cut.py") 371] }
noncomputable def ob150 (P : Params) : Obj := fnO (stIn (stA 16) 2) (Str.ofString "TopologicalSorter.add") (Value.str (Str.ofString "cpy313.graphlib") 267) 149 (Value.none)
noncomputable def ob154 (P : Params) : Obj := { cls := Value.type "code", data := Data.fields #[Value.str (Str.ofString "prepare") 373, Value.str (Str.ofString "TopologicalSorter.prepare") 374, Value.str (Str.ofString "/claim/cut.py") 375, Value.int 60 0, Value.int 1 0, Value.int 0 0, Value.int 0 0, Value.int 3 0, Value.ref 151, Value.bool true, Value.int 181 0, Value.ref 152, Value.none, Value.none, Value.none, Value.ref 153, Value.int 376 0, Value.int 60 0, Value.str (Str.ofString "/claim/cut.py") 377] }
noncomputable def ob155 (P : Params) : Obj := fnO (stIn (stA 16) 3) (Str.ofString "TopologicalSorter.prepare") (Value.str (Str.ofString "cpy313.graphlib") 267) 154 (Value.none)
noncomputable def ob161 (P : Params) : Obj := { cls := Value.type "code", data := Data.fields #[Value.str (Str.ofString "get_ready") 379, Value.str (Str.ofString "TopologicalSorter.get_ready") 380, Value.str (Str.ofString "/claim/cut.py") 381, Value.int 68 0, Value.int 1 0, Value.int 0 0, Value.int 0 0, Value.int 3 0, Value.ref 156, Value.bool true, Value.int 181 0, Value.ref 157, Value.none, Value.ref 158, Value.ref 159, Value.ref 160, Value.int 386 0, Value.int 68 0, Value.str (Str.ofString "/claim/cut.py") 387] }
noncomputable def ob162 (P : Params) : Obj := fnO (stIn (stA 16) 4) (Str.ofString "TopologicalSorter.get_ready") (Value.str (Str.ofString "cpy313.graphlib") 267) 161 (Value.none)
noncomputable def ob182 (P : Params) : Obj := { cls := Value.type "code", data := Data.fields #[Value.str (Str.ofString "done") 403, Value.str (Str.ofString "TopologicalSorter.done") 404, Value.str (Str.ofString "/claim/cut.py") 405, Value.int 87 0, Value.int 1 0, Value.int 0 0, Value.int 0 0, Value.int 7 0, Value.ref 177, Value.bool true, Value.int 181 0, Value.ref 178, Value.none, Value.ref 179, Value.ref 180, Value.ref 181, Value.int 414 0, Value.int 87 0, Value.str (Str.ofString "/claim/cut.py") 415] }
noncomputable def ob183 (P : Params) : Obj := fnO (stIn (stA 16) 7) (Str.ofString "TopologicalSorter.done") (Value.str (Str.ofString "cpy313.graphlib") 267) 182 (Value.none)
noncomputable def ob189 (P : Params) : Obj := { cls := Value.type "code", data := Data.fields #[Value.str (Str.ofString "_find_cycle") 417, Value.str (Str.ofString "TopologicalSorter._find_cycle") 418, Value.str (Str.ofString "/claim/cut.py") 419, Value.int 110 0, Value.int 1 0, Value.int 0 0, Value.int 0 0, Value.int 3 0, Value.ref 184, Value.bool true, Value.int 181 0, Value.ref 185, Value.none, Value.ref 186, Value.ref 187, Value.ref 188, Value.int 427 0, Value.int 110 0, Value.str (Str.ofString "/claim/cut.py") 428] }
noncomputable def ob190 (P : Params) : Obj := fnO (stIn (stA 16) 8) (Str.ofString "TopologicalSorter._find_cycle") (Value.str (Str.ofString "cpy313.graphlib") 267) 189 (Value.none)
noncomputable def ob199 (P : Params) : Obj := { cls := Value.type "dict", data := Data.dict #[{ hash := PyData.keyHash P (Str.ofString "__module__"), key := Value.str (Str.ofString "__module__") 337, val := Value.str (Str.ofString "cpy313.graphlib") 267 }, { hash := PyData.keyHash P (Str.ofString "__firstlineno__"), key := Value.str (Str.ofString "__firstlineno__") 341, val := Value.int 35 340 }, { hash := PyData.keyHash P (Str.ofString "__init__"), key := Value.str (Str.ofString "__init__") 351, val := Value.ref 136 }, { hash := PyData.keyHash P (Str.ofString "_get_nodeinfo"), key := Value.str (Str.ofString "_get_nodeinfo") 360, val := Value.ref 143 }, { hash := PyData.keyHash P (Str.ofString "add"), key := Value.str (Str.ofString "add") 372, val := Value.ref 150 }, { hash := PyData.keyHash P (Str.ofString "prepare"), key := Value.str (Str.ofString "prepare") 378, val := Value.ref 155 }, { hash := PyData.keyHash P (Str.ofString "get_ready"), key := Value.str (Str.ofString "get_ready") 388, val := Value.ref 162 }, { hash := PyData.keyHash P (Str.ofString "is_active"), key := Value.str (Str.ofString "is_active") 395, val := Value.ref 169 }, { hash := PyData.keyHash P (Str.ofString "__bool__"), key := Value.str (Str.ofString "__bool__") 402, val := Value.ref 176 }, { hash := PyData.keyHash P (Str.ofString "done"), key := Value.str (Str.ofString "done") 416, val := Value.ref 183 }, { hash := PyData.keyHash P (Str.ofString "_find_cycle"), key := Value.str (Str.ofString "_find_cycle") 429, val := Value.ref 190 }, { hash := PyData.keyHash P (Str.ofString "static_order"), key := Value.str (Str.ofString "static_order") 436, val := Value.ref 197 }, { hash := PyData.keyHash P (Str.ofString "__static_attributes__"), key := Value.str (Str.ofString "__static_attributes__") 441, val := Value.ref 198 }, { hash := PyData.keyHash P (Str.ofString "__dict__"), key := Value.str (Str.ofString "__dict__") 443, val := Value.ref 201 }, { hash := PyData.keyHash P (Str.ofString "__weakref__"), key := Value.str (Str.ofString "__weakref__") 445, val := Value.ref 202 }, { hash := PyData.keyHash P (Str.ofString "__doc__"), key := Value.str (Str.ofString "__doc__") 446, val := Value.none }] 4 }
noncomputable def ob200 (P : Params) : Obj := { cls := Value.type "type", data := Data.cls { name := Str.ofString "TopologicalSorter", bases := [Value.type "object"], mro := [Value.ref 200, Value.type "object"], ns := 199, qualname := Str.ofString "TopologicalSorter" }, slots := #[none, none, some (Value.str (Str.ofString "TopologicalSorter") 330), some (Value.str (Str.ofString "TopologicalSorter") 338), some (Value.builtin "object.__new__"), some (Value.bool true)] }
noncomputable def ob201 (P : Params) : Obj := { cls := Value.type "getset_descriptor", data := Data.fields #[Value.str (Str.ofString "__dict__") 442, Value.ref 200, Value.builtin "function.__dict__", Value.builtin "function.__dict__#set"] }
noncomputable def ob202 (P : Params) : Obj := { cls := Value.type "getset_descriptor", data := Data.fields #[Value.str (Str.ofString "__weakref__") 444, Value.ref 200, Value.builtin "ExceptionGroup.__weakref__", Value.none] }
noncomputable def ob208 (P : Params) : Obj := { cls := Value.type "code", data := Data.fields #[Value.str (Str.ofString "_law_needs") 451, Value.str (Str.ofString "_law_needs") 452, Value.str (Str.ofString "/claim/cut.py") 453, Value.int 142 0, Value.int 1 0, Value.int 0 0, Value.int 0 0, Value.int 3 0, Value.ref 205, Value.bool true, Value.int 181 0, Value.ref 206, Value.none, Value.none, Value.none, Value.ref 207, Value.int 454 0, Value.int 142 0, Value.str (Str.ofString "/claim/cut.py") 455] }
noncomputable def ob209 (P : Params) : Obj := fnO (stA 18) (Str.ofString "_law_needs") (Value.str (Str.ofString "law_mq0330_01") 449) 208 (Value.none)
noncomputable def ob215 (P : Params) : Obj := { cls := Value.type "code", data := Data.fields #[Value.str (Str.ofString "_law_order") 457, Value.str (Str.ofString "_law_order") 458, Value.str (Str.ofString "/claim/cut.py") 459, Value.int 148 0, Value.int 1 0, Value.int 0 0, Value.int 0 0, Value.int 3 0, Value.ref 210, Value.bool true, Value.int 181 0, Value.ref 211, Value.none, Value.ref 212, Value.ref 213, Value.ref 214, Value.int 466 0, Value.int 148 0, Value.str (Str.ofString "/claim/cut.py") 467] }
noncomputable def ob216 (P : Params) : Obj := fnO (stA 19) (Str.ofString "_law_order") (Value.str (Str.ofString "law_mq0330_01") 449) 215 (Value.none)
noncomputable def ob220 (P : Params) : Obj := { cls := Value.type "code", data := Data.fields #[Value.str (Str.ofString "_law_table") 469, Value.str (Str.ofString "_law_table") 470, Value.str (Str.ofString "/claim/cut.py") 471, Value.int 159 0, Value.int 1 0, Value.int 0 0, Value.int 0 0, Value.int 3 0, Value.ref 217, Value.bool true, Value.int 181 0, Value.ref 218, Value.none, Value.none, Value.none, Value.ref 219, Value.int 472 0, Value.int 159 0, Value.str (Str.ofString "/claim/cut.py") 473] }
noncomputable def ob221 (P : Params) : Obj := fnO (stA 20) (Str.ofString "_law_table") (Value.str (Str.ofString "law_mq0330_01") 449) 220 (Value.none)
noncomputable def ob225 (P : Params) : Obj := { cls := Value.type "code", data := Data.fields #[Value.str (Str.ofString "_law_under") 475, Value.str (Str.ofString "_law_under") 476, Value.str (Str.ofString "/claim/cut.py") 477, Value.int 173 0, Value.int 1 0, Value.int 0 0, Value.int 0 0, Value.int 3 0, Value.ref 222, Value.bool true, Value.int 181 0, Value.ref 223, Value.none, Value.none, Value.none, Value.ref 224, Value.int 478 0, Value.int 173 0, Value.str (Str.ofString "/claim/cut.py") 479] }
noncomputable def ob226 (P : Params) : Obj := fnO (stA 21) (Str.ofString "_law_under") (Value.str (Str.ofString "law_mq0330_01") 449) 225 (Value.none)
noncomputable def ob230 (P : Params) : Obj := { cls := Value.type "code", data := Data.fields #[Value.str (Str.ofString "_law_chains") 481, Value.str (Str.ofString "_law_chains") 482, Value.str (Str.ofString "/claim/cut.py") 483, Value.int 178 0, Value.int 3 0, Value.int 0 0, Value.int 0 0, Value.int 3 0, Value.ref 227, Value.bool true, Value.int 181 0, Value.ref 228, Value.none, Value.none, Value.none, Value.ref 229, Value.int 484 0, Value.int 178 0, Value.str (Str.ofString "/claim/cut.py") 485] }
noncomputable def ob231 (P : Params) : Obj := fnO (stA 22) (Str.ofString "_law_chains") (Value.str (Str.ofString "law_mq0330_01") 449) 230 (Value.none)
noncomputable def ob237 (P : Params) : Obj := { cls := Value.type "code", data := Data.fields #[Value.str (Str.ofString "_law_back") 487, Value.str (Str.ofString "_law_back") 488, Value.str (Str.ofString "/claim/cut.py") 489, Value.int 182 0, Value.int 2 0, Value.int 0 0, Value.int 0 0, Value.int 3 0, Value.ref 232, Value.bool true, Value.int 181 0, Value.ref 233, Value.none, Value.ref 234, Value.ref 235, Value.ref 236, Value.int 494 0, Value.int 182 0, Value.str (Str.ofString "/claim/cut.py") 495] }
noncomputable def ob238 (P : Params) : Obj := fnO (stA 23) (Str.ofString "_law_back") (Value.str (Str.ofString "law_mq0330_01") 449) 237 (Value.none)
noncomputable def ob242 (P : Params) : Obj := { cls := Value.type "code", data := Data.fields #[Value.str (Str.ofString "law") 497, Value.str (Str.ofString "law") 498, Value.str (Str.ofString "/claim/cut.py") 499, Value.int 187 0, Value.int 1 0, Value.int 0 0, Value.int 0 0, Value.int 3 0, Value.ref 239, Value.bool true, Value.int 181 0, Value.ref 240, Value.none, Value.none, Value.none, Value.ref 241, Value.int 500 0, Value.int 187 0, Value.str (Str.ofString "/claim/cut.py") 501] }
noncomputable def ob243 (P : Params) : Obj := fnO (stA 24) (Str.ofString "law") (Value.str (Str.ofString "law_mq0330_01") 449) 242 (Value.none)
noncomputable def KK (P : Params) : Frag := [(2, ob2 P), (3, ob3 P), (27, ob27 P), (28, ob28 P), (34, ob34 P), (35, ob35 P), (41, ob41 P), (42, ob42 P), (48, ob48 P), (49, ob49 P), (55, ob55 P), (56, ob56 P), (62, ob62 P), (63, ob63 P), (69, ob69 P), (70, ob70 P), (76, ob76 P), (77, ob77 P), (83, ob83 P), (84, ob84 P), (98, ob98 P), (99, ob99 P), (102, ob102 P), (103, ob103 P), (104, ob104 P), (105, ob105 P), (106, ob106 P), (129, ob129 P), (135, ob135 P), (136, ob136 P), (142, ob142 P), (143, ob143 P), (149, ob149 P), (150, ob150 P), (154, ob154 P), (155, ob155 P), (161, ob161 P), (162, ob162 P), (182, ob182 P), (183, ob183 P), (189, ob189 P), (190, ob190 P), (199, ob199 P), (200, ob200 P), (201, ob201 P), (202, ob202 P), (208, ob208 P), (209, ob209 P), (215, ob215 P), (216, ob216 P), (220, ob220 P), (221, ob221 P), (225, ob225 P), (226, ob226 P), (230, ob230 P), (231, ob231 P), (237, ob237 P), (238, ob238 P), (242, ob242 P), (243, ob243 P)]
noncomputable def KA : List Addr := [2, 3, 27, 28, 34, 35, 41, 42, 48, 49, 55, 56, 62, 63, 69, 70, 76, 77, 83, 84, 98, 99, 102, 103, 104, 105, 106, 129, 135, 136, 142, 143, 149, 150, 154, 155, 161, 162, 182, 183, 189, 190, 199, 200, 201, 202, 208, 209, 215, 216, 220, 221, 225, 226, 230, 231, 237, 238, 242, 243]
end Mine

end
section
namespace Mine
open PySem PySem.W PyProof.Rows
noncomputable def fnR (s : Stmt) (q : Str) : Obj := match s with
  | .FunctionDef name params body _ _ _ scope _ _ _ => { cls := .none, data := .func { name, qualname := q, params, body := .stmts body, scope, globals := builtinsNs, closure := [], defaults := .none, kwdefaults := .none } }
  | _ => { cls := .none, data := .plain }
noncomputable def hb11 (P : Params) : Obj := { cls := Value.type "tuple", data := Data.seq #[] }
noncomputable def hb12 (P : Params) : Obj := { cls := Value.none, data := Data.fields #[Value.int 1 0, Value.int 0 0, Value.ref 20, Value.int 5 0, Value.int 0 0, Value.ref 27, Value.int 7 0, Value.int 0 0, Value.ref 34, Value.int 9 0, Value.int 0 0, Value.ref 41, Value.int 11 0, Value.int 0 0, Value.ref 48, Value.int 13 0, Value.int 0 0, Value.ref 55, Value.int 15 0, Value.int 0 0, Value.ref 62, Value.int 17 0, Value.int 0 0, Value.ref 69, Value.int 19 0, Value.int 0 0, Value.ref 76, Value.int 21 0, Value.int 0 0, Value.ref 83, Value.int 26 0, Value.int 0 0, Value.ref 90, Value.int 33 0, Value.int 0 0, Value.ref 114, Value.int 35 0, Value.int 0 0, Value.ref 127, Value.int 142 0, Value.int 0 0, Value.ref 208, Value.int 148 0, Value.int 0 0, Value.ref 215, Value.int 159 0, Value.int 0 0, Value.ref 220, Value.int 173 0, Value.int 0 0, Value.ref 225, Value.int 178 0, Value.int 0 0, Value.ref 230, Value.int 182 0, Value.int 0 0, Value.ref 237, Value.int 187 0, Value.int 0 0, Value.ref 242] }
noncomputable def hb13 (P : Params) : Obj := { cls := Value.type "code", data := Data.fields #[Value.str (Str.ofString "<module>") 182, Value.str (Str.ofString "<module>") 183, Value.str (Str.ofString "/claim/cut.py") 184, Value.int 1 0, Value.int 0 0, Value.int 0 0, Value.int 0 0, Value.int 0 0, Value.ref 11, Value.bool false, Value.int 181 0, Value.ref 12, Value.none, Value.none, Value.none, Value.none, Value.int 185 0, Value.int 1 0, Value.str (Str.ofString "/claim/cut.py") 186] }
noncomputable def hb14 (P : Params) : Obj := { cls := Value.type "frame", slots := #[some (Value.ref 13), some (Value.ref 3), some (Value.ref 3), none, some (Value.str (Str.ofString "__main__") 164), none, some (Value.ref 0)] }
noncomputable def hb15 (P : Params) : Obj := { cls := Value.type "tuple", data := Data.seq #[] }
noncomputable def hb16 (P : Params) : Obj := { cls := Value.none, data := Data.fields #[] }
noncomputable def hb17 (P : Params) : Obj := { cls := Value.type "tuple", data := Data.seq #[Value.str (Str.ofString "k") 190] }
noncomputable def hb18 (P : Params) : Obj := { cls := Value.type "tuple", data := Data.seq #[] }
noncomputable def hb19 (P : Params) : Obj := fnR (stA 0) (Str.ofString "_wall")
noncomputable def hb20 (P : Params) : Obj := { cls := Value.type "code", data := Data.fields #[Value.str (Str.ofString "_wall") 187, Value.str (Str.ofString "_wall") 188, Value.str (Str.ofString "/claim/cut.py") 189, Value.int 1 0, Value.int 1 0, Value.int 0 0, Value.int 0 0, Value.int 3 0, Value.ref 15, Value.bool true, Value.int 181 0, Value.ref 16, Value.none, Value.ref 17, Value.ref 18, Value.ref 19, Value.int 191 0, Value.int 1 0, Value.str (Str.ofString "/claim/cut.py") 192] }
noncomputable def hb21 (P : Params) : Obj := fnO (stA 0) (Str.ofString "_wall") (Value.str (Str.ofString "__main__") 164) 20 (Value.none)
noncomputable def hb22 (P : Params) : Obj := { cls := Value.type "tuple", data := Data.seq #[] }
noncomputable def hb23 (P : Params) : Obj := { cls := Value.none, data := Data.fields #[] }
noncomputable def hb24 (P : Params) : Obj := { cls := Value.type "tuple", data := Data.seq #[Value.str (Str.ofString "a") 199] }
noncomputable def hb25 (P : Params) : Obj := { cls := Value.type "tuple", data := Data.seq #[] }
noncomputable def hb26 (P : Params) : Obj := fnR (stA 2) (Str.ofString "truth")
noncomputable def hb29 (P : Params) : Obj := { cls := Value.type "tuple", data := Data.seq #[] }
noncomputable def hb30 (P : Params) : Obj := { cls := Value.none, data := Data.fields #[] }
noncomputable def hb31 (P : Params) : Obj := { cls := Value.type "tuple", data := Data.seq #[Value.str (Str.ofString "a") 206, Value.str (Str.ofString "b") 207] }
noncomputable def hb32 (P : Params) : Obj := { cls := Value.type "tuple", data := Data.seq #[] }
noncomputable def hb33 (P : Params) : Obj := fnR (stA 3) (Str.ofString "add")
noncomputable def hb36 (P : Params) : Obj := { cls := Value.type "tuple", data := Data.seq #[] }
noncomputable def hb37 (P : Params) : Obj := { cls := Value.none, data := Data.fields #[] }
noncomputable def hb38 (P : Params) : Obj := { cls := Value.type "tuple", data := Data.seq #[Value.str (Str.ofString "a") 214, Value.str (Str.ofString "b") 215] }
noncomputable def hb39 (P : Params) : Obj := { cls := Value.type "tuple", data := Data.seq #[] }
noncomputable def hb40 (P : Params) : Obj := fnR (stA 4) (Str.ofString "and_")
noncomputable def hb43 (P : Params) : Obj := { cls := Value.type "tuple", data := Data.seq #[] }
noncomputable def hb44 (P : Params) : Obj := { cls := Value.none, data := Data.fields #[] }
noncomputable def hb45 (P : Params) : Obj := { cls := Value.type "tuple", data := Data.seq #[Value.str (Str.ofString "a") 222, Value.str (Str.ofString "b") 223] }
noncomputable def hb46 (P : Params) : Obj := { cls := Value.type "tuple", data := Data.seq #[] }
noncomputable def hb47 (P : Params) : Obj := fnR (stA 5) (Str.ofString "lshift")
noncomputable def hb50 (P : Params) : Obj := { cls := Value.type "tuple", data := Data.seq #[] }
noncomputable def hb51 (P : Params) : Obj := { cls := Value.none, data := Data.fields #[] }
noncomputable def hb52 (P : Params) : Obj := { cls := Value.type "tuple", data := Data.seq #[Value.str (Str.ofString "a") 230, Value.str (Str.ofString "b") 231] }
noncomputable def hb53 (P : Params) : Obj := { cls := Value.type "tuple", data := Data.seq #[] }
noncomputable def hb54 (P : Params) : Obj := fnR (stA 6) (Str.ofString "mul")
noncomputable def hb57 (P : Params) : Obj := { cls := Value.type "tuple", data := Data.seq #[] }
noncomputable def hb58 (P : Params) : Obj := { cls := Value.none, data := Data.fields #[] }
noncomputable def hb59 (P : Params) : Obj := { cls := Value.type "tuple", data := Data.seq #[Value.str (Str.ofString "a") 238] }
noncomputable def hb60 (P : Params) : Obj := { cls := Value.type "tuple", data := Data.seq #[] }
noncomputable def hb61 (P : Params) : Obj := fnR (stA 7) (Str.ofString "neg")
noncomputable def hb64 (P : Params) : Obj := { cls := Value.type "tuple", data := Data.seq #[] }
noncomputable def hb65 (P : Params) : Obj := { cls := Value.none, data := Data.fields #[] }
noncomputable def hb66 (P : Params) : Obj := { cls := Value.type "tuple", data := Data.seq #[Value.str (Str.ofString "a") 245, Value.str (Str.ofString "b") 246] }
noncomputable def hb67 (P : Params) : Obj := { cls := Value.type "tuple", data := Data.seq #[] }
noncomputable def hb68 (P : Params) : Obj := fnR (stA 8) (Str.ofString "or_")
noncomputable def hb71 (P : Params) : Obj := { cls := Value.type "tuple", data := Data.seq #[] }
noncomputable def hb72 (P : Params) : Obj := { cls := Value.none, data := Data.fields #[] }
noncomputable def hb73 (P : Params) : Obj := { cls := Value.type "tuple", data := Data.seq #[Value.str (Str.ofString "a") 253, Value.str (Str.ofString "b") 254] }
noncomputable def hb74 (P : Params) : Obj := { cls := Value.type "tuple", data := Data.seq #[] }
noncomputable def hb75 (P : Params) : Obj := fnR (stA 9) (Str.ofString "getitem")
noncomputable def hb78 (P : Params) : Obj := { cls := Value.type "tuple", data := Data.seq #[] }
noncomputable def hb79 (P : Params) : Obj := { cls := Value.none, data := Data.fields #[] }
noncomputable def hb80 (P : Params) : Obj := { cls := Value.type "tuple", data := Data.seq #[Value.str (Str.ofString "a") 261, Value.str (Str.ofString "b") 262, Value.str (Str.ofString "c") 263] }
noncomputable def hb81 (P : Params) : Obj := { cls := Value.type "tuple", data := Data.seq #[] }
noncomputable def hb82 (P : Params) : Obj := fnR (stA 10) (Str.ofString "setitem")
noncomputable def hb85 (P : Params) : Obj := { cls := Value.type "tuple", data := Data.seq #[] }
noncomputable def hb86 (P : Params) : Obj := { cls := Value.type "builtin_function_or_method", data := Data.fields #[Value.builtin "type.__prepare__", Value.type "type"] }
noncomputable def hb87 (P : Params) : Obj := { cls := Value.type "dict", data := Data.dict #[{ hash := PyData.keyHash P (Str.ofString "__module__"), key := Value.str (Str.ofString "__module__") 282, val := Value.str (Str.ofString "cpy313.graphlib") 267 }, { hash := PyData.keyHash P (Str.ofString "__qualname__"), key := Value.str (Str.ofString "__qualname__") 284, val := Value.str (Str.ofString "_NodeInfo") 283 }, { hash := PyData.keyHash P (Str.ofString "__firstlineno__"), key := Value.str (Str.ofString "__firstlineno__") 286, val := Value.int 26 285 }, { hash := PyData.keyHash P (Str.ofString "__slots__"), key := Value.str (Str.ofString "__slots__") 290, val := Value.ref 92 }, { hash := PyData.keyHash P (Str.ofString "__init__"), key := Value.str (Str.ofString "__init__") 298, val := Value.ref 99 }, { hash := PyData.keyHash P (Str.ofString "__static_attributes__"), key := Value.str (Str.ofString "__static_attributes__") 302, val := Value.ref 100 }] 6 }
noncomputable def hb88 (P : Params) : Obj := { cls := Value.type "tuple", data := Data.seq #[] }
noncomputable def hb89 (P : Params) : Obj := { cls := Value.none, data := Data.fields #[Value.int 29 0, Value.int 4 0, Value.ref 98] }
noncomputable def hb90 (P : Params) : Obj := { cls := Value.type "code", data := Data.fields #[Value.str (Str.ofString "_NodeInfo") 277, Value.str (Str.ofString "_NodeInfo") 278, Value.str (Str.ofString "/claim/cut.py") 279, Value.int 26 0, Value.int 0 0, Value.int 0 0, Value.int 0 0, Value.int 0 0, Value.ref 88, Value.bool false, Value.int 181 0, Value.ref 89, Value.none, Value.none, Value.none, Value.none, Value.int 280 0, Value.int 26 0, Value.str (Str.ofString "/claim/cut.py") 281] }
noncomputable def hb91 (P : Params) : Obj := { cls := Value.type "frame", slots := #[some (Value.ref 90), some (Value.ref 3), some (Value.ref 87), none, some (Value.str (Str.ofString "cpy313.graphlib") 267), none, some (Value.ref 0)] }
noncomputable def hb92 (P : Params) : Obj := { cls := Value.type "tuple", data := Data.seq #[Value.str (Str.ofString "node") 287, Value.str (Str.ofString "npredecessors") 288, Value.str (Str.ofString "successors") 289] }
noncomputable def hb93 (P : Params) : Obj := { cls := Value.type "tuple", data := Data.seq #[] }
noncomputable def hb94 (P : Params) : Obj := { cls := Value.none, data := Data.fields #[] }
noncomputable def hb95 (P : Params) : Obj := { cls := Value.type "tuple", data := Data.seq #[Value.str (Str.ofString "self") 294, Value.str (Str.ofString "node") 295] }
noncomputable def hb96 (P : Params) : Obj := { cls := Value.type "tuple", data := Data.seq #[] }
noncomputable def hb97 (P : Params) : Obj := fnR (stIn (stA 14) 1) (Str.ofString "_NodeInfo.__init__")
noncomputable def hb100 (P : Params) : Obj := { cls := Value.type "tuple", data := Data.seq #[Value.str (Str.ofString "node") 299, Value.str (Str.ofString "npredecessors") 300, Value.str (Str.ofString "successors") 301] }
noncomputable def hb101 (P : Params) : Obj := { cls := Value.type "list", data := Data.seq #[Value.str (Str.ofString "node") 287, Value.str (Str.ofString "npredecessors") 288, Value.str (Str.ofString "successors") 289] 1 }
noncomputable def hb107 (P : Params) : Obj := { cls := Value.type "super", data := Data.fields #[Value.ref 103, Value.ref 103, Value.ref 103] }
noncomputable def hb108 (P : Params) : Obj := { cls := Value.type "builtin_function_or_method", data := Data.fields #[Value.builtin "object.__init_subclass__", Value.ref 103] }
noncomputable def hb109 (P : Params) : Obj := { cls := Value.type "tuple", data := Data.seq #[Value.type "ValueError"] }
noncomputable def hb110 (P : Params) : Obj := { cls := Value.type "builtin_function_or_method", data := Data.fields #[Value.builtin "type.__prepare__", Value.type "type"] }
noncomputable def hb111 (P : Params) : Obj := { cls := Value.type "dict", data := Data.dict #[{ hash := PyData.keyHash P (Str.ofString "__module__"), key := Value.str (Str.ofString "__module__") 319, val := Value.str (Str.ofString "cpy313.graphlib") 267 }, { hash := PyData.keyHash P (Str.ofString "__qualname__"), key := Value.str (Str.ofString "__qualname__") 321, val := Value.str (Str.ofString "CycleError") 320 }, { hash := PyData.keyHash P (Str.ofString "__firstlineno__"), key := Value.str (Str.ofString "__firstlineno__") 323, val := Value.int 33 322 }, { hash := PyData.keyHash P (Str.ofString "__static_attributes__"), key := Value.str (Str.ofString "__static_attributes__") 324, val := Value.ref 116 }] 4 }
noncomputable def hb112 (P : Params) : Obj := { cls := Value.type "tuple", data := Data.seq #[] }
noncomputable def hb113 (P : Params) : Obj := { cls := Value.none, data := Data.fields #[] }
noncomputable def hb114 (P : Params) : Obj := { cls := Value.type "code", data := Data.fields #[Value.str (Str.ofString "CycleError") 314, Value.str (Str.ofString "CycleError") 315, Value.str (Str.ofString "/claim/cut.py") 316, Value.int 33 0, Value.int 0 0, Value.int 0 0, Value.int 0 0, Value.int 0 0, Value.ref 112, Value.bool false, Value.int 181 0, Value.ref 113, Value.none, Value.none, Value.none, Value.none, Value.int 317 0, Value.int 33 0, Value.str (Str.ofString "/claim/cut.py") 318] }
noncomputable def hb115 (P : Params) : Obj := { cls := Value.type "frame", slots := #[some (Value.ref 114), some (Value.ref 3), some (Value.ref 111), none, some (Value.str (Str.ofString "cpy313.graphlib") 267), none, some (Value.ref 0)] }
noncomputable def hb116 (P : Params) : Obj := { cls := Value.type "tuple", data := Data.seq #[] }
noncomputable def hb117 (P : Params) : Obj := { cls := Value.type "dict", data := Data.dict #[{ hash := PyData.keyHash P (Str.ofString "__module__"), key := Value.str (Str.ofString "__module__") 319, val := Value.str (Str.ofString "cpy313.graphlib") 267 }, { hash := PyData.keyHash P (Str.ofString "__firstlineno__"), key := Value.str (Str.ofString "__firstlineno__") 323, val := Value.int 33 322 }, { hash := PyData.keyHash P (Str.ofString "__static_attributes__"), key := Value.str (Str.ofString "__static_attributes__") 324, val := Value.ref 116 }, { hash := PyData.keyHash P (Str.ofString "__weakref__"), key := Value.str (Str.ofString "__weakref__") 326, val := Value.ref 119 }, { hash := PyData.keyHash P (Str.ofString "__doc__"), key := Value.str (Str.ofString "__doc__") 327, val := Value.none }] 3 }
noncomputable def hb118 (P : Params) : Obj := { cls := Value.type "type", data := Data.cls { name := Str.ofString "CycleError", bases := [Value.type "ValueError"], mro := [Value.ref 118, Value.type "ValueError", Value.type "Exception", Value.type "BaseException", Value.type "object"], ns := 117, qualname := Str.ofString "CycleError" }, slots := #[some (Value.ref 109), none, some (Value.str (Str.ofString "CycleError") 312), some (Value.str (Str.ofString "CycleError") 320), some (Value.builtin "ValueError.__new__"), some (Value.bool true)] }
noncomputable def hb119 (P : Params) : Obj := { cls := Value.type "getset_descriptor", data := Data.fields #[Value.str (Str.ofString "__weakref__") 325, Value.ref 118, Value.builtin "ExceptionGroup.__weakref__", Value.none] }
noncomputable def hb120 (P : Params) : Obj := { cls := Value.type "super", data := Data.fields #[Value.ref 118, Value.ref 118, Value.ref 118] }
noncomputable def hb121 (P : Params) : Obj := { cls := Value.type "builtin_function_or_method", data := Data.fields #[Value.builtin "object.__init_subclass__", Value.ref 118] }
noncomputable def hb122 (P : Params) : Obj := { cls := Value.type "tuple", data := Data.seq #[] }
noncomputable def hb123 (P : Params) : Obj := { cls := Value.type "builtin_function_or_method", data := Data.fields #[Value.builtin "type.__prepare__", Value.type "type"] }
noncomputable def hb124 (P : Params) : Obj := { cls := Value.type "dict", data := Data.dict #[{ hash := PyData.keyHash P (Str.ofString "__module__"), key := Value.str (Str.ofString "__module__") 337, val := Value.str (Str.ofString "cpy313.graphlib") 267 }, { hash := PyData.keyHash P (Str.ofString "__qualname__"), key := Value.str (Str.ofString "__qualname__") 339, val := Value.str (Str.ofString "TopologicalSorter") 338 }, { hash := PyData.keyHash P (Str.ofString "__firstlineno__"), key := Value.str (Str.ofString "__firstlineno__") 341, val := Value.int 35 340 }, { hash := PyData.keyHash P (Str.ofString "__init__"), key := Value.str (Str.ofString "__init__") 351, val := Value.ref 136 }, { hash := PyData.keyHash P (Str.ofString "_get_nodeinfo"), key := Value.str (Str.ofString "_get_nodeinfo") 360, val := Value.ref 143 }, { hash := PyData.keyHash P (Str.ofString "add"), key := Value.str (Str.ofString "add") 372, val := Value.ref 150 }, { hash := PyData.keyHash P (Str.ofString "prepare"), key := Value.str (Str.ofString "prepare") 378, val := Value.ref 155 }, { hash := PyData.keyHash P (Str.ofString "get_ready"), key := Value.str (Str.ofString "get_ready") 388, val := Value.ref 162 }, { hash := PyData.keyHash P (Str.ofString "is_active"), key := Value.str (Str.ofString "is_active") 395, val := Value.ref 169 }, { hash := PyData.keyHash P (Str.ofString "__bool__"), key := Value.str (Str.ofString "__bool__") 402, val := Value.ref 176 }, { hash := PyData.keyHash P (Str.ofString "done"), key := Value.str (Str.ofString "done") 416, val := Value.ref 183 }, { hash := PyData.keyHash P (Str.ofString "_find_cycle"), key := Value.str (Str.ofString "_find_cycle") 429, val := Value.ref 190 }, { hash := PyData.keyHash P (Str.ofString "static_order"), key := Value.str (Str.ofString "static_order") 436, val := Value.ref 197 }, { hash := PyData.keyHash P (Str.ofString "__static_attributes__"), key := Value.str (Str.ofString "__static_attributes__") 441, val := Value.ref 198 }] 14 }
noncomputable def hb125 (P : Params) : Obj := { cls := Value.type "tuple", data := Data.seq #[] }
noncomputable def hb126 (P : Params) : Obj := { cls := Value.none, data := Data.fields #[Value.int 37 0, Value.int 4 0, Value.ref 135, Value.int 46 0, Value.int 4 0, Value.ref 142, Value.int 51 0, Value.int 4 0, Value.ref 149, Value.int 60 0, Value.int 4 0, Value.ref 154, Value.int 68 0, Value.int 4 0, Value.ref 161, Value.int 79 0, Value.int 4 0, Value.ref 168, Value.int 84 0, Value.int 4 0, Value.ref 175, Value.int 87 0, Value.int 4 0, Value.ref 182, Value.int 110 0, Value.int 4 0, Value.ref 189, Value.int 139 0, Value.int 4 0, Value.ref 196] }
noncomputable def hb127 (P : Params) : Obj := { cls := Value.type "code", data := Data.fields #[Value.str (Str.ofString "TopologicalSorter") 332, Value.str (Str.ofString "TopologicalSorter") 333, Value.str (Str.ofString "/claim/cut.py") 334, Value.int 35 0, Value.int 0 0, Value.int 0 0, Value.int 0 0, Value.int 0 0, Value.ref 125, Value.bool false, Value.int 181 0, Value.ref 126, Value.none, Value.none, Value.none, Value.none, Value.int 335 0, Value.int 35 0, Value.str (Str.ofString "/claim/cut.py") 336] }
noncomputable def hb128 (P : Params) : Obj := { cls := Value.type "frame", slots := #[some (Value.ref 127), some (Value.ref 3), some (Value.ref 124), none, some (Value.str (Str.ofString "cpy313.graphlib") 267), none, some (Value.ref 0)] }
noncomputable def hb130 (P : Params) : Obj := { cls := Value.type "tuple", data := Data.seq #[] }
noncomputable def hb131 (P : Params) : Obj := { cls := Value.none, data := Data.fields #[] }
noncomputable def hb132 (P : Params) : Obj := { cls := Value.type "tuple", data := Data.seq #[Value.str (Str.ofString "self") 345, Value.str (Str.ofString "graph") 346, Value.str (Str.ofString "node") 347, Value.str (Str.ofString "predecessors") 348] }
noncomputable def hb133 (P : Params) : Obj := { cls := Value.type "tuple", data := Data.seq #[] }
noncomputable def hb134 (P : Params) : Obj := fnR (stIn (stA 16) 0) (Str.ofString "TopologicalSorter.__init__")
noncomputable def hb137 (P : Params) : Obj := { cls := Value.type "tuple", data := Data.seq #[] }
noncomputable def hb138 (P : Params) : Obj := { cls := Value.none, data := Data.fields #[] }
noncomputable def hb139 (P : Params) : Obj := { cls := Value.type "tuple", data := Data.seq #[Value.str (Str.ofString "self") 355, Value.str (Str.ofString "node") 356, Value.str (Str.ofString "result") 357] }
noncomputable def hb140 (P : Params) : Obj := { cls := Value.type "tuple", data := Data.seq #[] }
noncomputable def hb141 (P : Params) : Obj := fnR (stIn (stA 16) 1) (Str.ofString "TopologicalSorter._get_nodeinfo")
noncomputable def hb144 (P : Params) : Obj := { cls := Value.type "tuple", data := Data.seq #[] }
noncomputable def hb145 (P : Params) : Obj := { cls := Value.none, data := Data.fields #[] }
noncomputable def hb146 (P : Params) : Obj := { cls := Value.type "tuple", data := Data.seq #[Value.str (Str.ofString "self") 364, Value.str (Str.ofString "node") 365, Value.str (Str.ofString "predecessors") 366, Value.str (Str.ofString "nodeinfo") 367, Value.str (Str.ofString "pred") 368, Value.str (Str.ofString "pred_info") 369] }
noncomputable def hb147 (P : Params) : Obj := { cls := Value.type "tuple", data := Data.seq #[] }
noncomputable def hb148 (P : Params) : Obj := fnR (stIn (stA 16) 2) (Str.ofString "TopologicalSorter.add")
noncomputable def hb151 (P : Params) : Obj := { cls := Value.type "tuple", data := Data.seq #[] }
noncomputable def hb152 (P : Params) : Obj := { cls := Value.none, data := Data.fields #[] }
noncomputable def hb153 (P : Params) : Obj := fnR (stIn (stA 16) 3) (Str.ofString "TopologicalSorter.prepare")
noncomputable def hb156 (P : Params) : Obj := { cls := Value.type "tuple", data := Data.seq #[] }
noncomputable def hb157 (P : Params) : Obj := { cls := Value.none, data := Data.fields #[] }
noncomputable def hb158 (P : Params) : Obj := { cls := Value.type "tuple", data := Data.seq #[Value.str (Str.ofString "self") 382, Value.str (Str.ofString "result") 383, Value.str (Str.ofString "n2i") 384, Value.str (Str.ofString "node") 385] }
noncomputable def hb159 (P : Params) : Obj := { cls := Value.type "tuple", data := Data.seq #[] }
noncomputable def hb160 (P : Params) : Obj := fnR (stIn (stA 16) 4) (Str.ofString "TopologicalSorter.get_ready")
noncomputable def hb163 (P : Params) : Obj := { cls := Value.type "tuple", data := Data.seq #[] }
noncomputable def hb164 (P : Params) : Obj := { cls := Value.none, data := Data.fields #[] }
noncomputable def hb165 (P : Params) : Obj := { cls := Value.type "tuple", data := Data.seq #[Value.str (Str.ofString "self") 392] }
noncomputable def hb166 (P : Params) : Obj := { cls := Value.type "tuple", data := Data.seq #[] }
noncomputable def hb167 (P : Params) : Obj := fnR (stIn (stA 16) 5) (Str.ofString "TopologicalSorter.is_active")
noncomputable def hb168 (P : Params) : Obj := { cls := Value.type "code", data := Data.fields #[Value.str (Str.ofString "is_active") 389, Value.str (Str.ofString "TopologicalSorter.is_active") 390, Value.str (Str.ofString "/claim/cut.py") 391, Value.int 79 0, Value.int 1 0, Value.int 0 0, Value.int 0 0, Value.int 3 0, Value.ref 163, Value.bool true, Value.int 181 0, Value.ref 164, Value.none, Value.ref 165, Value.ref 166, Value.ref 167, Value.int 393 0, Value.int 79 0, Value.str (Str.ofString "/claim/cut.py") 394] }
noncomputable def hb169 (P : Params) : Obj := fnO (stIn (stA 16) 5) (Str.ofString "TopologicalSorter.is_active") (Value.str (Str.ofString "cpy313.graphlib") 267) 168 (Value.none)
noncomputable def hb170 (P : Params) : Obj := { cls := Value.type "tuple", data := Data.seq #[] }
noncomputable def hb171 (P : Params) : Obj := { cls := Value.none, data := Data.fields #[] }
noncomputable def hb172 (P : Params) : Obj := { cls := Value.type "tuple", data := Data.seq #[Value.str (Str.ofString "self") 399] }
noncomputable def hb173 (P : Params) : Obj := { cls := Value.type "tuple", data := Data.seq #[] }
noncomputable def hb174 (P : Params) : Obj := fnR (stIn (stA 16) 6) (Str.ofString "TopologicalSorter.__bool__")
noncomputable def hb175 (P : Params) : Obj := { cls := Value.type "code", data := Data.fields #[Value.str (Str.ofString "__bool__") 396, Value.str (Str.ofString "TopologicalSorter.__bool__") 397, Value.str (Str.ofString "/claim/cut.py") 398, Value.int 84 0, Value.int 1 0, Value.int 0 0, Value.int 0 0, Value.int 3 0, Value.ref 170, Value.bool true, Value.int 181 0, Value.ref 171, Value.none, Value.ref 172, Value.ref 173, Value.ref 174, Value.int 400 0, Value.int 84 0, Value.str (Str.ofString "/claim/cut.py") 401] }
noncomputable def hb176 (P : Params) : Obj := fnO (stIn (stA 16) 6) (Str.ofString "TopologicalSorter.__bool__") (Value.str (Str.ofString "cpy313.graphlib") 267) 175 (Value.none)
noncomputable def hb177 (P : Params) : Obj := { cls := Value.type "tuple", data := Data.seq #[] }
noncomputable def hb178 (P : Params) : Obj := { cls := Value.none, data := Data.fields #[] }
noncomputable def hb179 (P : Params) : Obj := { cls := Value.type "tuple", data := Data.seq #[Value.str (Str.ofString "self") 406, Value.str (Str.ofString "nodes") 407, Value.str (Str.ofString "n2i") 408, Value.str (Str.ofString "node") 409, Value.str (Str.ofString "nodeinfo") 410, Value.str (Str.ofString "stat") 411, Value.str (Str.ofString "successor") 412, Value.str (Str.ofString "successor_info") 413] }
noncomputable def hb180 (P : Params) : Obj := { cls := Value.type "tuple", data := Data.seq #[] }
noncomputable def hb181 (P : Params) : Obj := fnR (stIn (stA 16) 7) (Str.ofString "TopologicalSorter.done")
noncomputable def hb184 (P : Params) : Obj := { cls := Value.type "tuple", data := Data.seq #[] }
noncomputable def hb185 (P : Params) : Obj := { cls := Value.none, data := Data.fields #[] }
noncomputable def hb186 (P : Params) : Obj := { cls := Value.type "tuple", data := Data.seq #[Value.str (Str.ofString "self") 420, Value.str (Str.ofString "n2i") 421, Value.str (Str.ofString "stack") 422, Value.str (Str.ofString "itstack") 423, Value.str (Str.ofString "seen") 424, Value.str (Str.ofString "node2stacki") 425, Value.str (Str.ofString "node") 426] }
noncomputable def hb187 (P : Params) : Obj := { cls := Value.type "tuple", data := Data.seq #[] }
noncomputable def hb188 (P : Params) : Obj := fnR (stIn (stA 16) 8) (Str.ofString "TopologicalSorter._find_cycle")
noncomputable def hb191 (P : Params) : Obj := { cls := Value.type "tuple", data := Data.seq #[] }
noncomputable def hb192 (P : Params) : Obj := { cls := Value.none, data := Data.fields #[] }
noncomputable def hb193 (P : Params) : Obj := { cls := Value.type "tuple", data := Data.seq #[Value.str (Str.ofString "self") 433] }
noncomputable def hb194 (P : Params) : Obj := { cls := Value.type "tuple", data := Data.seq #[] }
noncomputable def hb195 (P : Params) : Obj := fnR (stIn (stA 16) 9) (Str.ofString "TopologicalSorter.static_order")
noncomputable def hb196 (P : Params) : Obj := { cls := Value.type "code", data := Data.fields #[Value.str (Str.ofString "static_order") 430, Value.str (Str.ofString "TopologicalSorter.static_order") 431, Value.str (Str.ofString "/claim/cut.py") 432, Value.int 139 0, Value.int 1 0, Value.int 0 0, Value.int 0 0, Value.int 3 0, Value.ref 191, Value.bool true, Value.int 181 0, Value.ref 192, Value.none, Value.ref 193, Value.ref 194, Value.ref 195, Value.int 434 0, Value.int 139 0, Value.str (Str.ofString "/claim/cut.py") 435] }
noncomputable def hb197 (P : Params) : Obj := fnO (stIn (stA 16) 9) (Str.ofString "TopologicalSorter.static_order") (Value.str (Str.ofString "cpy313.graphlib") 267) 196 (Value.none)
noncomputable def hb198 (P : Params) : Obj := { cls := Value.type "tuple", data := Data.seq #[Value.str (Str.ofString "_nfinished") 437, Value.str (Str.ofString "_node2info") 438, Value.str (Str.ofString "_npassedout") 439, Value.str (Str.ofString "_ready_nodes") 440] }
noncomputable def hb203 (P : Params) : Obj := { cls := Value.type "super", data := Data.fields #[Value.ref 200, Value.ref 200, Value.ref 200] }
noncomputable def hb204 (P : Params) : Obj := { cls := Value.type "builtin_function_or_method", data := Data.fields #[Value.builtin "object.__init_subclass__", Value.ref 200] }
noncomputable def hb205 (P : Params) : Obj := { cls := Value.type "tuple", data := Data.seq #[] }
noncomputable def hb206 (P : Params) : Obj := { cls := Value.none, data := Data.fields #[] }
noncomputable def hb207 (P : Params) : Obj := fnR (stA 18) (Str.ofString "_law_needs")
noncomputable def hb210 (P : Params) : Obj := { cls := Value.type "tuple", data := Data.seq #[] }
noncomputable def hb211 (P : Params) : Obj := { cls := Value.none, data := Data.fields #[] }
noncomputable def hb212 (P : Params) : Obj := { cls := Value.type "tuple", data := Data.seq #[Value.str (Str.ofString "needs") 460, Value.str (Str.ofString "sorter") 461, Value.str (Str.ofString "k") 462, Value.str (Str.ofString "order") 463, Value.str (Str.ofString "turn") 464, Value.str (Str.ofString "ready") 465] }
noncomputable def hb213 (P : Params) : Obj := { cls := Value.type "tuple", data := Data.seq #[] }
noncomputable def hb214 (P : Params) : Obj := fnR (stA 19) (Str.ofString "_law_order")
noncomputable def hb217 (P : Params) : Obj := { cls := Value.type "tuple", data := Data.seq #[] }
noncomputable def hb218 (P : Params) : Obj := { cls := Value.none, data := Data.fields #[] }
noncomputable def hb219 (P : Params) : Obj := fnR (stA 20) (Str.ofString "_law_table")
noncomputable def hb222 (P : Params) : Obj := { cls := Value.type "tuple", data := Data.seq #[] }
noncomputable def hb223 (P : Params) : Obj := { cls := Value.none, data := Data.fields #[] }
noncomputable def hb224 (P : Params) : Obj := fnR (stA 21) (Str.ofString "_law_under")
noncomputable def hb227 (P : Params) : Obj := { cls := Value.type "tuple", data := Data.seq #[] }
noncomputable def hb228 (P : Params) : Obj := { cls := Value.none, data := Data.fields #[] }
noncomputable def hb229 (P : Params) : Obj := fnR (stA 22) (Str.ofString "_law_chains")
noncomputable def hb232 (P : Params) : Obj := { cls := Value.type "tuple", data := Data.seq #[] }
noncomputable def hb233 (P : Params) : Obj := { cls := Value.none, data := Data.fields #[] }
noncomputable def hb234 (P : Params) : Obj := { cls := Value.type "tuple", data := Data.seq #[Value.str (Str.ofString "row") 490, Value.str (Str.ofString "sums") 491, Value.str (Str.ofString "total") 492, Value.str (Str.ofString "place") 493] }
noncomputable def hb235 (P : Params) : Obj := { cls := Value.type "tuple", data := Data.seq #[] }
noncomputable def hb236 (P : Params) : Obj := fnR (stA 23) (Str.ofString "_law_back")
noncomputable def hb239 (P : Params) : Obj := { cls := Value.type "tuple", data := Data.seq #[] }
noncomputable def hb240 (P : Params) : Obj := { cls := Value.none, data := Data.fields #[] }
noncomputable def hb241 (P : Params) : Obj := fnR (stA 24) (Str.ofString "law")
noncomputable def heapL (P : Params) : Heap := { objs := { toList := [PySem.W.boot_o_0 P, PySem.W.boot_o_1 P, ob2 P, ob3 P, PySem.W.boot_o_4 P, PySem.W.boot_o_5 P, PySem.W.boot_o_6 P, PySem.W.boot_o_7 P, PySem.W.boot_o_8 P, PySem.W.boot_o_9 P, PySem.W.boot_o_10 P, hb11 P, hb12 P, hb13 P, hb14 P, hb15 P, hb16 P, hb17 P, hb18 P, hb19 P, hb20 P, hb21 P, hb22 P, hb23 P, hb24 P, hb25 P, hb26 P, ob27 P, ob28 P, hb29 P, hb30 P, hb31 P, hb32 P, hb33 P, ob34 P, ob35 P, hb36 P, hb37 P, hb38 P, hb39 P, hb40 P, ob41 P, ob42 P, hb43 P, hb44 P, hb45 P, hb46 P, hb47 P, ob48 P, ob49 P, hb50 P, hb51 P, hb52 P, hb53 P, hb54 P, ob55 P, ob56 P, hb57 P, hb58 P, hb59 P, hb60 P, hb61 P, ob62 P, ob63 P, hb64 P, hb65 P, hb66 P, hb67 P, hb68 P, ob69 P, ob70 P, hb71 P, hb72 P, hb73 P, hb74 P, hb75 P, ob76 P, ob77 P, hb78 P, hb79 P, hb80 P, hb81 P, hb82 P, ob83 P, ob84 P, hb85 P, hb86 P, hb87 P, hb88 P, hb89 P, hb90 P, hb91 P, hb92 P, hb93 P, hb94 P, hb95 P, hb96 P, hb97 P, ob98 P, ob99 P, hb100 P, hb101 P, ob102 P, ob103 P, ob104 P, ob105 P, ob106 P, hb107 P, hb108 P, hb109 P, hb110 P, hb111 P, hb112 P, hb113 P, hb114 P, hb115 P, hb116 P, hb117 P, hb118 P, hb119 P, hb120 P, hb121 P, hb122 P, hb123 P, hb124 P, hb125 P, hb126 P, hb127 P, hb128 P, ob129 P, hb130 P, hb131 P, hb132 P, hb133 P, hb134 P, ob135 P, ob136 P, hb137 P, hb138 P, hb139 P, hb140 P, hb141 P, ob142 P, ob143 P, hb144 P, hb145 P, hb146 P, hb147 P, hb148 P, ob149 P, ob150 P, hb151 P, hb152 P, hb153 P, ob154 P, ob155 P, hb156 P, hb157 P, hb158 P, hb159 P, hb160 P, ob161 P, ob162 P, hb163 P, hb164 P, hb165 P, hb166 P, hb167 P, hb168 P, hb169 P, hb170 P, hb171 P, hb172 P, hb173 P, hb174 P, hb175 P, hb176 P, hb177 P, hb178 P, hb179 P, hb180 P, hb181 P, ob182 P, ob183 P, hb184 P, hb185 P, hb186 P, hb187 P, hb188 P, ob189 P, ob190 P, hb191 P, hb192 P, hb193 P, hb194 P, hb195 P, hb196 P, hb197 P, hb198 P, ob199 P, ob200 P, ob201 P, ob202 P, hb203 P, hb204 P, hb205 P, hb206 P, hb207 P, ob208 P, ob209 P, hb210 P, hb211 P, hb212 P, hb213 P, hb214 P, ob215 P, ob216 P, hb217 P, hb218 P, hb219 P, ob220 P, ob221 P, hb222 P, hb223 P, hb224 P, ob225 P, ob226 P, hb227 P, hb228 P, hb229 P, ob230 P, ob231 P, hb232 P, hb233 P, hb234 P, hb235 P, hb236 P, ob237 P, ob238 P, hb239 P, hb240 P, hb241 P, ob242 P, ob243 P] } }
end Mine

end
section
namespace Mine
open PySem PySem.W PyProof.Rows
noncomputable abbrev hk : Hook := kHook KK KA (fun _ => by kernel_rfl)
noncomputable def keepI : List Nat := [0, 2, 3, 4, 5, 6, 7, 8, 9, 10, 12, 13, 14, 15, 16, 18, 19, 20, 21, 22, 23, 24]
theorem boot_ok : ∀ w : World, (fencedOpening treeTable PySem.Challenge.pw_mq0330_01 w 3200).map (fun s => (s.heap, s.gens, s.drawn, s.toks)) = some (boot_heap w.params, Array.mk [], boot_drawn, boot_toks) :=
  boot_open (by kernel_rfl) (by decide) (fun s => by kernel_rfl)
theorem size_ok (w : World) : ((boot_heap w.params).isNs mainGlobals && (Array.mk ([] : List GenState)).size == 0, (boot_heap w.params).objs.size, (boot_heap w.params).nsMap mainGlobals "__annotations__") = (true, 11, some (.ref 6)) := by kernel_rfl
theorem run_ok (w : World) (os : OsState) : topRun treeTable PySem.Challenge.pw_mq0330_01 w 11 (some (.ref 6)) 3100 ⟨boot_heap w.params, Array.mk [], boot_drawn, boot_toks, os⟩ (topStub PySem.Challenge.pw_mq0330_01) = some ⟨heapL w.params, Array.mk [], boot_drawn, 503, os⟩ := by
  rw [PySem.W.Fast.te14082659384304107361, PySem.W.Fast.te14364793385576792824]
  kernel_rfl
theorem look1 (w : World) (os : OsState) : (staticsOk (importedModules PySem.Challenge.pw_mq0330_01.main.body) (boot_heap w.params) (heapL w.params) && namesBound PySem.Challenge.pw_mq0330_01 (heapL w.params) && gensDone ⟨heapL w.params, Array.mk [], boot_drawn, 503, os⟩ && laidKept (boot_heap w.params) (heapL w.params)) = true := by kernel_rfl
theorem look2 (w : World) (os : OsState) : openSeen (view PySem.Challenge.pw_mq0330_01 keepI) [Str.ofString "_NodeInfo"] (importedModules PySem.Challenge.pw_mq0330_01.main.body) (fun s => xlAt (view PySem.Challenge.pw_mq0330_01 keepI) [] s && recOk (RowW.records PySem.Challenge.rw_mq0330_01.row.toRowW) s) true ⟨heapL w.params, Array.mk [], boot_drawn, 503, os⟩ = openGood (view PySem.Challenge.pw_mq0330_01 keepI) [Str.ofString "_NodeInfo"] := by
  rw [PySem.W.Fast.te4187177175401517315]
  kernel_rfl
theorem look3 (w : World) (os : OsState) : Hook.obs hk ⟨heapL w.params, Array.mk [], boot_drawn, 503, os⟩ = Hook.val hk w := by kernel_rfl
theorem looks_ok (w : World) : (fun os => ((staticsOk (importedModules PySem.Challenge.pw_mq0330_01.main.body) (boot_heap w.params) (heapL w.params) && namesBound PySem.Challenge.pw_mq0330_01 (heapL w.params) && gensDone ⟨heapL w.params, Array.mk [], boot_drawn, 503, os⟩ && laidKept (boot_heap w.params) (heapL w.params)),
    openSeen (view PySem.Challenge.pw_mq0330_01 keepI) [Str.ofString "_NodeInfo"] (importedModules PySem.Challenge.pw_mq0330_01.main.body) (fun s => xlAt (view PySem.Challenge.pw_mq0330_01 keepI) [] s && recOk (RowW.records PySem.Challenge.rw_mq0330_01.row.toRowW) s) true ⟨heapL w.params, Array.mk [], boot_drawn, 503, os⟩,
    Hook.obs hk ⟨heapL w.params, Array.mk [], boot_drawn, 503, os⟩)) = fun _ => (true, openGood (view PySem.Challenge.pw_mq0330_01 keepI) [Str.ofString "_NodeInfo"], Hook.val hk w) := by
  funext os
  rw [look1 w os, look2 w os, look3 w os]
theorem top_ok : LeftO PySem.Challenge.pw_mq0330_01 (view PySem.Challenge.pw_mq0330_01 keepI) [Str.ofString "_NodeInfo"] (fun s => xlAt (view PySem.Challenge.pw_mq0330_01 keepI) [] s && recOk (RowW.records PySem.Challenge.rw_mq0330_01.row.toRowW) s) (Hook.obs hk) (Hook.val hk) 3200 :=
  LeftO.of_pieces (H₀ := boot_heap) (H₁ := heapL) boot_ok size_ok run_ok (by decide) looks_ok
end Mine

end
section
namespace Mine
open PySem PySem.W PyProof.Rows
noncomputable def lawRec : DefRec := match stA 24 with
  | .FunctionDef name params body _ _ _ scope _ _ pos => ⟨name, params, body, scope, pos⟩
  | _ => ⟨Str.ofString "", ⟨[], [], none, [], [], none, []⟩, [], default, default⟩
theorem hdef_ok : defOf (view PySem.Challenge.pw_mq0330_01 keepI) PySem.Challenge.rw_mq0330_01.row.name = some (lawRec, []) := by kernel_rfl
theorem hp_ok : PySem.Challenge.rw_mq0330_01.row.toRowW.prog.theDef PySem.Challenge.rw_mq0330_01.row.name = some (lawRec.params, lawRec.body, lawRec.scope) := by kernel_rfl
theorem hk_ok : kwWritten? lawRec.params.kwonlyargs lawRec.params.kw_defaults = some [] := by kernel_rfl
theorem hwr_ok : (!PySem.Challenge.rw_mq0330_01.row.writes || PySem.Challenge.rw_mq0330_01.row.records.isEmpty) = true := by kernel_rfl
theorem ok_ok : (chainsOk (view PySem.Challenge.pw_mq0330_01 keepI) && opensWell PySem.Challenge.rw_mq0330_01.row.prog && (PySem.W.frees PySem.Challenge.rw_mq0330_01.row.toRowW && PySem.Challenge.rw_mq0330_01.row.within.isEmpty)) = true := by k_qdec
theorem bare_ok : PySem.Challenge.rw_mq0330_01.row.prog.bare := ⟨rfl, rfl, rfl, rfl, rfl, by decide +kernel⟩
theorem prom_ok : PySem.Challenge.rw_mq0330_01.row.toRowW.promised := by w_witness2
theorem law_all (h : PySem.Challenge.rw_mq0330_01.row.wellSaid = true → PySem.Challenge.rw_mq0330_01.row.Holds) : PySem.Challenge.rw_mq0330_01.Holds := by
  o_law
  exact h (by assumption)
end Mine

end
section
namespace Mine
open PySem PySem.W PyProof.Rows PySem.Calls

noncomputable abbrev XX (w : World) (σ : List Int) (S : Addr) (t : Heap) (mg mb : NsM) : Cx := ⟨PySem.Challenge.rw_mq0330_01.row.prog, w, ⟨200, 103, S⟩, σ, t, mg, mb, KK w.params⟩
noncomputable def okB (names : List (Str × NameKind)) (ps ns cs : List Str) (locs cels : List (Option Nat)) : Bool :=
  decide ns.Nodup && decide cs.Nodup && decide ps.Nodup
  && ns.all (fun x => names.lookup x == some .local && !(x == ("__debug__" : Str)))
  && cs.all (fun x => names.lookup x == some .cell && !(x == ("__debug__" : Str)) && !(x == ("__classdict__" : Str)))
  && ps.all (fun x => names.lookup x == some .local || names.lookup x == some .cell)
  && agree locs ns ps && agree cels cs ps
theorem dok_of {names : List (Str × NameKind)} {ps ns cs : List Str} {locs cels : List (Option Nat)} {d : Nat} {h : Bool} (e : okB names ps ns cs locs cels = true) : DOk ⟨names, ns, cs, d, h⟩ := by
  simp only [okB, Bool.and_eq_true, decide_eq_true_eq, List.all_eq_true, Bool.not_eq_true', beq_iff_eq] at e
  obtain ⟨⟨⟨⟨⟨⟨⟨h1, h2⟩, h3⟩, h4⟩, h5⟩, h6⟩, h7⟩, h8⟩ := e
  exact ⟨h1, fun x hx => h4 x hx, fun x hx => ⟨.inl (h5 x hx).1.1, (h5 x hx).1.2, (h5 x hx).2⟩⟩
theorem fnOk_of {X : Cx} (G : Gd X) {f : Addr} {oc : Value} {od : Option Addr} {osl : Array (Option Value)} {fd : FuncData} {body : List Stmt} {names : List (Str × NameKind)} {ns cs ps : List Str} {d : Nat} {locs cels : List (Option Nat)}
    (h : X.K.lookup f = some ⟨oc, od, .func fd, osl⟩) (hb : fd.body = .stmts body) (hc : codeIn X.K fd.code fd.qualname = true) (hclo : fd.closure = []) (hco : fd.scope.isCoroutine = false) (hgen : fd.scope.isGenerator = false) (hkind : fd.scope.kind = .function)
    (hglob : fd.globals = mainGlobals) (hbltn : fd.builtins = builtinsNs) (hn : fd.scope.names = names) (e : okB names ps ns cs locs cels = true) : FnOk X f fd body ⟨names, ns, cs, d, true⟩ ps locs cels := by
  have hd := dok_of (d := d) (h := true) e
  simp only [okB, Bool.and_eq_true, decide_eq_true_eq, List.all_eq_true, Bool.not_eq_true', beq_iff_eq, Bool.or_eq_true] at e
  obtain ⟨⟨⟨⟨⟨⟨⟨h1, h2⟩, h3⟩, h4⟩, h5⟩, h6⟩, h7⟩, h8⟩ := e
  exact ⟨⟨_, G.k f _ h, rfl⟩, codeRec_of G.k hc, hb, hclo, hco, hgen, hkind, hglob, hbltn, hn, hd, rfl, h3, h6, fun x hx => (h5 x hx).1.1, h2, h7, h8⟩
noncomputable def compB (names : List (Str × NameKind)) (dcs : List Str) (scope : Scope) (ns fnames : List Str) (own : Option Str) (free : List Nat) : Bool :=
  scope.kind == .function && decide ns.Nodup
  && ns.all (fun x => (relab names scope.names).lookup x == some .local && !(x == ("__debug__" : Str)))
  && (own.toList ++ fnames).all (fun x => ((relab names scope.names).lookup x == some .cell || (relab names scope.names).lookup x == some .free) && !(x == ("__debug__" : Str)) && !(x == ("__classdict__" : Str)))
  && scope.names.all (fun x => !(x.2 == .local) || scope.names.lookup x.1 == some .local)
  && decide (free.map (fun j => dcs[j]?) = fnames.map some)
  && fnames.all (fun x => decide (x ∈ freeNames scope.names)) && (freeNames scope.names).all (fun x => decide (x ∈ fnames))
  && decide (cellNames scope.names = own.toList) && own.toList.all (fun x => !decide (x ∈ fnames))
theorem compOk_of {D : Desc} {scope : Scope} {ns fnames : List Str} {own : Option Str} {free : List Nat} (e : compB D.names D.cs scope ns fnames own free = true) : CompOk D scope ns fnames own free := by
  simp only [compB, Bool.and_eq_true, decide_eq_true_eq, List.all_eq_true, Bool.not_eq_true', beq_iff_eq, Bool.or_eq_true, decide_eq_false_iff_not] at e
  obtain ⟨⟨⟨⟨⟨⟨⟨⟨⟨h1, h2⟩, h3⟩, h4⟩, h5⟩, h6⟩, h7⟩, h8⟩, h9⟩, h10⟩ := e
  refine ⟨h1, ⟨h2, fun x hx => h3 x hx, fun x hx => ⟨(h4 x hx).1.1, (h4 x hx).1.2, (h4 x hx).2⟩⟩, fun x hx hl => ?_, h6, h7, h8, h9, fun x hx => h10 x (by rw [Option.mem_def.mp hx]; exact List.mem_cons_self ..)⟩
  rcases h5 x hx with q | q
  · rw [hl] at q; cases q
  · exact q
theorem swaps_cell {D : Desc} {x : Str} {p pos : Pos} {elt : Expr} {gens : List Comprehension} {scope : Scope} (h : D.names.lookup x = some .cell) (line : Nat) (env : Env) (hn : env.scope.names = D.names) :
    swapsWithSole [.Name x p] (.ListComp elt gens scope pos) line env = pure false := by
  have hk : env.kindOf x = some .cell := by show env.scope.names.lookup x = _; rw [hn]; exact h
  show (pure (env.blockKind == .function && env.kindOf x == some .local && p.line == pos.line && !(scope.names.any fun (n, k) => n == x && (k == .local || k == .cell))) : Sem Bool) = _
  rw [hk]
  rw [show (some NameKind.cell == some NameKind.local) = false from rfl, Bool.and_false, Bool.false_and, Bool.false_and]
theorem swaps_local {D : Desc} {x : Str} {p pos : Pos} {elt : Expr} {gens : List Comprehension} {scope : Scope} (h : D.names.lookup x = some .local) (hp : (p.line == pos.line) = true) (hs : (scope.names.any fun (n, k) => n == x && (k == .local || k == .cell)) = false) (line : Nat) (env : Env) (hk : env.scope.kind = .function) (hn : env.scope.names = D.names) :
    swapsWith (.ListComp elt gens scope pos) (some (.Name x p)) line env = pure true := by
  have hk2 : env.kindOf x = some .local := by show env.scope.names.lookup x = _; rw [hn]; exact h
  show (pure (env.blockKind == .function && env.kindOf x == some .local && p.line == pos.line && !(scope.names.any fun (n, k) => n == x && (k == .local || k == .cell))) : Sem Bool) = _
  rw [hk2, hp, hs, show env.blockKind = .function by unfold Env.blockKind; rw [hk]; rfl]
  rfl
structure Al (X : Cx) (ob : Or) : Prop where
  g : Gd X
  ho : OrOk X.σ ob.bit
  z : ScrOk X ob
section
variable {w : World} {σ : List Int} {S : Addr} {t : Heap} {mg mb : NsM} {ob : Or} {D : Desc}
theorem sound_globalInt {X : Cx} (G : Gd X) {x : Str} (pos : Pos) {c : Int} (hk : (match nsIn X.K mainGlobals x with | some (some (.int i _)) => decide (i = c) | _ => false) = true) (hx : D.names.lookup x = some .globalImplicit)
    (hd : (x == ("__debug__" : Str)) = false := by decide) : SoundE X D (.Name x pos) (eK (.int (.k c))) := by
  split at hk
  · rename_i i t e
    have := of_decide_eq_true hk
    subst this
    intro A env fs s₀ ρ fr st s v fr' st' Q E W O ev h
    exact sound_global (v := .int i t) (m := .int (.k i)) G pos e (fun ρ => ⟨_, rfl⟩) hx hd W O ev h
  · cases hk
theorem gl_NODE_OUT (U : Al (XX w σ S t mg mb) ob) (pos : Pos) (hx : D.names.lookup (Str.ofString "_NODE_OUT") = some .globalImplicit) : SoundE (XX w σ S t mg mb) D (.Name (Str.ofString "_NODE_OUT") pos) (eK (.int (.k (-1)))) := sound_globalInt U.g pos (by kernel_rfl) hx
theorem gl_NODE_DONE (U : Al (XX w σ S t mg mb) ob) (pos : Pos) (hx : D.names.lookup (Str.ofString "_NODE_DONE") = some .globalImplicit) : SoundE (XX w σ S t mg mb) D (.Name (Str.ofString "_NODE_DONE") pos) (eK (.int (.k (-2)))) := sound_globalInt U.g pos (by kernel_rfl) hx
theorem gl_truth (U : Al (XX w σ S t mg mb) ob) (pos : Pos) (hx : D.names.lookup (Str.ofString "truth") = some .globalImplicit) : SoundE (XX w σ S t mg mb) D (.Name (Str.ofString "truth") pos) (eK (.val (.ref 28))) := sound_global (v := (.ref 28)) (m := .val (.ref 28)) U.g pos (by kernel_rfl) (fun _ => rfl) hx
theorem gl_add (U : Al (XX w σ S t mg mb) ob) (pos : Pos) (hx : D.names.lookup (Str.ofString "add") = some .globalImplicit) : SoundE (XX w σ S t mg mb) D (.Name (Str.ofString "add") pos) (eK (.val (.ref 35))) := sound_global (v := (.ref 35)) (m := .val (.ref 35)) U.g pos (by kernel_rfl) (fun _ => rfl) hx
theorem gl_and_ (U : Al (XX w σ S t mg mb) ob) (pos : Pos) (hx : D.names.lookup (Str.ofString "and_") = some .globalImplicit) : SoundE (XX w σ S t mg mb) D (.Name (Str.ofString "and_") pos) (eK (.val (.ref 42))) := sound_global (v := (.ref 42)) (m := .val (.ref 42)) U.g pos (by kernel_rfl) (fun _ => rfl) hx
theorem gl_lshift (U : Al (XX w σ S t mg mb) ob) (pos : Pos) (hx : D.names.lookup (Str.ofString "lshift") = some .globalImplicit) : SoundE (XX w σ S t mg mb) D (.Name (Str.ofString "lshift") pos) (eK (.val (.ref 49))) := sound_global (v := (.ref 49)) (m := .val (.ref 49)) U.g pos (by kernel_rfl) (fun _ => rfl) hx
theorem gl_mul (U : Al (XX w σ S t mg mb) ob) (pos : Pos) (hx : D.names.lookup (Str.ofString "mul") = some .globalImplicit) : SoundE (XX w σ S t mg mb) D (.Name (Str.ofString "mul") pos) (eK (.val (.ref 56))) := sound_global (v := (.ref 56)) (m := .val (.ref 56)) U.g pos (by kernel_rfl) (fun _ => rfl) hx
theorem gl_neg (U : Al (XX w σ S t mg mb) ob) (pos : Pos) (hx : D.names.lookup (Str.ofString "neg") = some .globalImplicit) : SoundE (XX w σ S t mg mb) D (.Name (Str.ofString "neg") pos) (eK (.val (.ref 63))) := sound_global (v := (.ref 63)) (m := .val (.ref 63)) U.g pos (by kernel_rfl) (fun _ => rfl) hx
theorem gl_or_ (U : Al (XX w σ S t mg mb) ob) (pos : Pos) (hx : D.names.lookup (Str.ofString "or_") = some .globalImplicit) : SoundE (XX w σ S t mg mb) D (.Name (Str.ofString "or_") pos) (eK (.val (.ref 70))) := sound_global (v := (.ref 70)) (m := .val (.ref 70)) U.g pos (by kernel_rfl) (fun _ => rfl) hx
theorem gl_getitem (U : Al (XX w σ S t mg mb) ob) (pos : Pos) (hx : D.names.lookup (Str.ofString "getitem") = some .globalImplicit) : SoundE (XX w σ S t mg mb) D (.Name (Str.ofString "getitem") pos) (eK (.val (.ref 77))) := sound_global (v := (.ref 77)) (m := .val (.ref 77)) U.g pos (by kernel_rfl) (fun _ => rfl) hx
theorem gl_setitem (U : Al (XX w σ S t mg mb) ob) (pos : Pos) (hx : D.names.lookup (Str.ofString "setitem") = some .globalImplicit) : SoundE (XX w σ S t mg mb) D (.Name (Str.ofString "setitem") pos) (eK (.val (.ref 84))) := sound_global (v := (.ref 84)) (m := .val (.ref 84)) U.g pos (by kernel_rfl) (fun _ => rfl) hx
theorem gl_law_needs (U : Al (XX w σ S t mg mb) ob) (pos : Pos) (hx : D.names.lookup (Str.ofString "_law_needs") = some .globalImplicit) : SoundE (XX w σ S t mg mb) D (.Name (Str.ofString "_law_needs") pos) (eK (.val (.ref 209))) := sound_global (v := (.ref 209)) (m := .val (.ref 209)) U.g pos (by kernel_rfl) (fun _ => rfl) hx
theorem gl_law_order (U : Al (XX w σ S t mg mb) ob) (pos : Pos) (hx : D.names.lookup (Str.ofString "_law_order") = some .globalImplicit) : SoundE (XX w σ S t mg mb) D (.Name (Str.ofString "_law_order") pos) (eK (.val (.ref 216))) := sound_global (v := (.ref 216)) (m := .val (.ref 216)) U.g pos (by kernel_rfl) (fun _ => rfl) hx
theorem gl_law_table (U : Al (XX w σ S t mg mb) ob) (pos : Pos) (hx : D.names.lookup (Str.ofString "_law_table") = some .globalImplicit) : SoundE (XX w σ S t mg mb) D (.Name (Str.ofString "_law_table") pos) (eK (.val (.ref 221))) := sound_global (v := (.ref 221)) (m := .val (.ref 221)) U.g pos (by kernel_rfl) (fun _ => rfl) hx
theorem gl_law_under (U : Al (XX w σ S t mg mb) ob) (pos : Pos) (hx : D.names.lookup (Str.ofString "_law_under") = some .globalImplicit) : SoundE (XX w σ S t mg mb) D (.Name (Str.ofString "_law_under") pos) (eK (.val (.ref 226))) := sound_global (v := (.ref 226)) (m := .val (.ref 226)) U.g pos (by kernel_rfl) (fun _ => rfl) hx
theorem gl_law_chains (U : Al (XX w σ S t mg mb) ob) (pos : Pos) (hx : D.names.lookup (Str.ofString "_law_chains") = some .globalImplicit) : SoundE (XX w σ S t mg mb) D (.Name (Str.ofString "_law_chains") pos) (eK (.val (.ref 231))) := sound_global (v := (.ref 231)) (m := .val (.ref 231)) U.g pos (by kernel_rfl) (fun _ => rfl) hx
theorem gl_law_back (U : Al (XX w σ S t mg mb) ob) (pos : Pos) (hx : D.names.lookup (Str.ofString "_law_back") = some .globalImplicit) : SoundE (XX w σ S t mg mb) D (.Name (Str.ofString "_law_back") pos) (eK (.val (.ref 238))) := sound_global (v := (.ref 238)) (m := .val (.ref 238)) U.g pos (by kernel_rfl) (fun _ => rfl) hx
theorem gl_NodeInfo (U : Al (XX w σ S t mg mb) ob) (pos : Pos) (hx : D.names.lookup (Str.ofString "_NodeInfo") = some .globalImplicit) : SoundE (XX w σ S t mg mb) D (.Name (Str.ofString "_NodeInfo") pos) (eK (.val (.ref 103))) := sound_global (v := (.ref 103)) (m := .val (.ref 103)) U.g pos (by kernel_rfl) (fun _ => rfl) hx
theorem gl_TopologicalSorter (U : Al (XX w σ S t mg mb) ob) (pos : Pos) (hx : D.names.lookup (Str.ofString "TopologicalSorter") = some .globalImplicit) : SoundE (XX w σ S t mg mb) D (.Name (Str.ofString "TopologicalSorter") pos) (eK (.val (.ref 200))) := sound_global (v := (.ref 200)) (m := .val (.ref 200)) U.g pos (by kernel_rfl) (fun _ => rfl) hx
theorem gl_len (U : Al (XX w σ S t mg mb) ob) (pos : Pos) (hx : D.names.lookup (Str.ofString "len") = some .globalImplicit) : SoundE (XX w σ S t mg mb) D (.Name (Str.ofString "len") pos) (eK (.val (.builtin "len"))) := sound_builtin U.g pos (by kernel_rfl) (by kernel_rfl) (by decide) hx
theorem gl_sum (U : Al (XX w σ S t mg mb) ob) (pos : Pos) (hx : D.names.lookup (Str.ofString "sum") = some .globalImplicit) : SoundE (XX w σ S t mg mb) D (.Name (Str.ofString "sum") pos) (eK (.val (.builtin "sum"))) := sound_builtin U.g pos (by kernel_rfl) (by kernel_rfl) (by decide) hx
theorem gl_iter (U : Al (XX w σ S t mg mb) ob) (pos : Pos) (hx : D.names.lookup (Str.ofString "iter") = some .globalImplicit) : SoundE (XX w σ S t mg mb) D (.Name (Str.ofString "iter") pos) (eK (.val (.builtin "iter"))) := sound_builtin U.g pos (by kernel_rfl) (by kernel_rfl) (by decide) hx
theorem gl_range (U : Al (XX w σ S t mg mb) ob) (pos : Pos) (hx : D.names.lookup (Str.ofString "range") = some .globalImplicit) : SoundE (XX w σ S t mg mb) D (.Name (Str.ofString "range") pos) (eK (.val (.type "range"))) := sound_builtin U.g pos (by kernel_rfl) (by kernel_rfl) (by decide) hx
theorem gl_tuple (U : Al (XX w σ S t mg mb) ob) (pos : Pos) (hx : D.names.lookup (Str.ofString "tuple") = some .globalImplicit) : SoundE (XX w σ S t mg mb) D (.Name (Str.ofString "tuple") pos) (eK (.val (.type "tuple"))) := sound_builtin U.g pos (by kernel_rfl) (by kernel_rfl) (by decide) hx
theorem gl_set (U : Al (XX w σ S t mg mb) ob) (pos : Pos) (hx : D.names.lookup (Str.ofString "set") = some .globalImplicit) : SoundE (XX w σ S t mg mb) D (.Name (Str.ofString "set") pos) (eK (.val (.type "set"))) := sound_builtin U.g pos (by kernel_rfl) (by kernel_rfl) (by decide) hx
theorem cls : ClsOk (XX w σ S t mg mb) where
  tga := by kernel_rfl
  tgt := by kernel_rfl
  town := fun q hq => match q, hq with | 0, _ => by kernel_rfl | 1, _ => by kernel_rfl | 2, _ => by kernel_rfl | 3, _ => by kernel_rfl
  tcls := ⟨_, rfl, rfl⟩
  tsa := by kernel_rfl
  tpo := by kernel_rfl
  tmk := by kernel_rfl
  nga := by kernel_rfl
  ngt := by kernel_rfl
  nsa := by kernel_rfl
  npo := by kernel_rfl
  nmk := by kernel_rfl
  nfind := fun q hq => match q, hq with
    | 0, _ => ⟨104, by kernel_rfl, by kernel_rfl, by kernel_rfl, fun od => by kernel_rfl⟩
    | 1, _ => ⟨105, by kernel_rfl, by kernel_rfl, by kernel_rfl, fun od => by kernel_rfl⟩
    | 2, _ => ⟨106, by kernel_rfl, by kernel_rfl, by kernel_rfl, fun od => by kernel_rfl⟩
theorem meth_get_nodeinfo : MethOk (XX w σ S t mg mb) "_get_nodeinfo" 143 := ⟨by kernel_rfl, by kernel_rfl, by decide⟩
theorem meth_add : MethOk (XX w σ S t mg mb) "add" 150 := ⟨by kernel_rfl, by kernel_rfl, by decide⟩
theorem meth_prepare : MethOk (XX w σ S t mg mb) "prepare" 155 := ⟨by kernel_rfl, by kernel_rfl, by decide⟩
theorem meth_get_ready : MethOk (XX w σ S t mg mb) "get_ready" 162 := ⟨by kernel_rfl, by kernel_rfl, by decide⟩
theorem meth_done : MethOk (XX w σ S t mg mb) "done" 183 := ⟨by kernel_rfl, by kernel_rfl, by decide⟩
theorem meth_find_cycle : MethOk (XX w σ S t mg mb) "_find_cycle" 190 := ⟨by kernel_rfl, by kernel_rfl, by decide⟩
theorem findObj_fn {K : Frag} {C : Addr} {od : Obj} {name : Str} {f : Value} {cd : ClassData} (e : lookIn name od = some none) (hc : clsIn K C = some cd) (hcd : cd.hasDict = true) (h1 : findIn K (.ref C) name = some (some f)) (h2 : specialIn K f "__get__" = some (some (.builtin "function.__get__"))) (h3 : takesIn K f = some false)
    (h4 : (copiedNames.contains name && (cd.mro.isEmpty || cd.mro.contains (.type "staticmethod") || cd.mro.contains (.type "classmethod"))) = false) : findObj K C (some od) name = some (.bind (.builtin "function.__get__") f) := by
  unfold findObj
  rw [hc, h1]
  simp only [Option.bind_some, h2, h3]
  unfold PySem.W.ownOf
  simp only [hcd, e, if_true, Option.bind_some, h4]
  rfl
theorem fo_add (od : Obj) (e : lookIn (Str.ofString "add") od = some none) : findObj (XX w σ S t mg mb).K (XX w σ S t mg mb).cc.T (some od) (Str.ofString "add") = some (.bind (.builtin "function.__get__") (.ref 150)) := findObj_fn e rfl rfl (by kernel_rfl) (by kernel_rfl) (by kernel_rfl) (by kernel_rfl)
theorem fo_done (od : Obj) (e : lookIn (Str.ofString "done") od = some none) : findObj (XX w σ S t mg mb).K (XX w σ S t mg mb).cc.T (some od) (Str.ofString "done") = some (.bind (.builtin "function.__get__") (.ref 183)) := findObj_fn e rfl rfl (by kernel_rfl) (by kernel_rfl) (by kernel_rfl) (by kernel_rfl)
end
end Mine
namespace Mine
open PySem PySem.W PyProof.Rows PySem.Calls
theorem sl_nil {X : Cx} {D : Desc} : SoundL X D [] [] := trivial
theorem sl_cons {X : Cx} {D : Desc} {l : Expr} {a : ME} {ls : List Expr} {as : List ME} (ha : SoundE X D l a) (hs : ∀ env rest, starEach (l :: rest) env = (false, eval l env) :: starEach rest env) (hl : SoundL X D ls as) : SoundL X D (l :: ls) (a :: as) := ⟨ha, hs, hl⟩
theorem cl_nil {X : Cx} : ConstL X [] [] := trivial
theorem cl_cons {X : Cx} {l : Expr} {i : Int} {ls : List Expr} {is : List Int} (hl : ConstE X l i) (hs : ∀ env rest, starEach (l :: rest) env = (false, eval l env) :: starEach rest env) (hr : ConstL X ls is) : ConstL X (l :: ls) (i :: is) := ⟨hl, hs, hr⟩
end Mine

end
section
namespace Mine
open PySem PySem.W PyProof.Rows PySem.Calls
section
variable {w : World} {σ : List Int} {S : Addr} {t : Heap} {mg mb : NsM} {ob : Or}
set_option maxHeartbeats 4000000 in
theorem snd_truth (U : Al (XX w σ S t mg mb) ob) : SoundF (XX w σ S t mg mb) 1 (.ref 28) (F_truth ob) := by
  refine sound_fn (ps := ["a"]) (Df := ⟨_, ["a"], [], 1, true⟩) U.g (fnOk_of U.g rfl rfl (by kernel_rfl) rfl rfl rfl rfl rfl rfl rfl (by kernel_rfl)) ?_ rfl (fun vs hv => match vs, hv with | [_], _ => rfl)
  unfold B_truth
  exact ((sound_seq ((sound_sRet ((sound_if _ ((sound_tVal ((sound_loc 0 _ rfl)))) ((sound_bool _ _ _)) ((sound_bool _ _ _)))))) (sound_nil)))
set_option maxHeartbeats 4000000 in
theorem snd_add (U : Al (XX w σ S t mg mb) ob) : SoundF (XX w σ S t mg mb) 1 (.ref 35) (F_add ob) := by
  refine sound_fn (ps := ["a", "b"]) (Df := ⟨_, ["a", "b"], [], 1, true⟩) U.g (fnOk_of U.g rfl rfl (by kernel_rfl) rfl rfl rfl rfl rfl rfl rfl (by kernel_rfl)) ?_ rfl (fun vs hv => match vs, hv with | [_, _], _ => rfl)
  unfold B_add
  exact ((sound_seq ((sound_sRet ((sound_bin U.ho _ ((sound_loc 0 _ rfl)) ((sound_loc 1 _ rfl)))))) (sound_nil)))
set_option maxHeartbeats 4000000 in
theorem snd_and_ (U : Al (XX w σ S t mg mb) ob) : SoundF (XX w σ S t mg mb) 1 (.ref 42) (F_and_ ob) := by
  refine sound_fn (ps := ["a", "b"]) (Df := ⟨_, ["a", "b"], [], 1, true⟩) U.g (fnOk_of U.g rfl rfl (by kernel_rfl) rfl rfl rfl rfl rfl rfl rfl (by kernel_rfl)) ?_ rfl (fun vs hv => match vs, hv with | [_, _], _ => rfl)
  unfold B_and_
  exact ((sound_seq ((sound_sRet ((sound_bin U.ho _ ((sound_loc 0 _ rfl)) ((sound_loc 1 _ rfl)))))) (sound_nil)))
set_option maxHeartbeats 4000000 in
theorem snd_lshift (U : Al (XX w σ S t mg mb) ob) : SoundF (XX w σ S t mg mb) 1 (.ref 49) (F_lshift ob) := by
  refine sound_fn (ps := ["a", "b"]) (Df := ⟨_, ["a", "b"], [], 1, true⟩) U.g (fnOk_of U.g rfl rfl (by kernel_rfl) rfl rfl rfl rfl rfl rfl rfl (by kernel_rfl)) ?_ rfl (fun vs hv => match vs, hv with | [_, _], _ => rfl)
  unfold B_lshift
  exact ((sound_seq ((sound_sRet ((sound_bin U.ho _ ((sound_loc 0 _ rfl)) ((sound_loc 1 _ rfl)))))) (sound_nil)))
set_option maxHeartbeats 4000000 in
theorem snd_mul (U : Al (XX w σ S t mg mb) ob) : SoundF (XX w σ S t mg mb) 1 (.ref 56) (F_mul ob) := by
  refine sound_fn (ps := ["a", "b"]) (Df := ⟨_, ["a", "b"], [], 1, true⟩) U.g (fnOk_of U.g rfl rfl (by kernel_rfl) rfl rfl rfl rfl rfl rfl rfl (by kernel_rfl)) ?_ rfl (fun vs hv => match vs, hv with | [_, _], _ => rfl)
  unfold B_mul
  exact ((sound_seq ((sound_sRet ((sound_bin U.ho _ ((sound_loc 0 _ rfl)) ((sound_loc 1 _ rfl)))))) (sound_nil)))
set_option maxHeartbeats 4000000 in
theorem snd_neg (U : Al (XX w σ S t mg mb) ob) : SoundF (XX w σ S t mg mb) 1 (.ref 63) (F_neg ob) := by
  refine sound_fn (ps := ["a"]) (Df := ⟨_, ["a"], [], 1, true⟩) U.g (fnOk_of U.g rfl rfl (by kernel_rfl) rfl rfl rfl rfl rfl rfl rfl (by kernel_rfl)) ?_ rfl (fun vs hv => match vs, hv with | [_], _ => rfl)
  unfold B_neg
  exact ((sound_seq ((sound_sRet ((sound_neg _ ((sound_loc 0 _ rfl)))))) (sound_nil)))
set_option maxHeartbeats 4000000 in
theorem snd_or_ (U : Al (XX w σ S t mg mb) ob) : SoundF (XX w σ S t mg mb) 1 (.ref 70) (F_or_ ob) := by
  refine sound_fn (ps := ["a", "b"]) (Df := ⟨_, ["a", "b"], [], 1, true⟩) U.g (fnOk_of U.g rfl rfl (by kernel_rfl) rfl rfl rfl rfl rfl rfl rfl (by kernel_rfl)) ?_ rfl (fun vs hv => match vs, hv with | [_, _], _ => rfl)
  unfold B_or_
  exact ((sound_seq ((sound_sRet ((sound_bin U.ho _ ((sound_loc 0 _ rfl)) ((sound_loc 1 _ rfl)))))) (sound_nil)))
set_option maxHeartbeats 4000000 in
theorem snd_getitem (U : Al (XX w σ S t mg mb) ob) : SoundF (XX w σ S t mg mb) 1 (.ref 77) (F_getitem ob) := by
  refine sound_fn (ps := ["a", "b"]) (Df := ⟨_, ["a", "b"], [], 1, true⟩) U.g (fnOk_of U.g rfl rfl (by kernel_rfl) rfl rfl rfl rfl rfl rfl rfl (by kernel_rfl)) ?_ rfl (fun vs hv => match vs, hv with | [_, _], _ => rfl)
  unfold B_getitem
  exact ((sound_seq ((sound_sRet ((sound_eItem _ ((sound_loc 0 _ rfl)) ((sound_loc 1 _ rfl)) (fun _ _ => rfl))))) (sound_nil)))
set_option maxHeartbeats 4000000 in
theorem snd_setitem (U : Al (XX w σ S t mg mb) ob) : SoundF (XX w σ S t mg mb) 1 (.ref 84) (F_setitem ob) := by
  refine sound_fn (ps := ["a", "b", "c"]) (Df := ⟨_, ["a", "b", "c"], [], 1, true⟩) U.g (fnOk_of U.g rfl rfl (by kernel_rfl) rfl rfl rfl rfl rfl rfl rfl (by kernel_rfl)) ?_ rfl (fun vs hv => match vs, hv with | [_, _, _], _ => rfl)
  unfold B_setitem
  exact ((sound_seq ((sound_sAssign ((sound_loc 2 _ rfl)) ((sound_tgItem _ ((sound_loc 0 _ rfl)) ((sound_loc 1 _ rfl)))) (fun _ _ _ => rfl) (fun _ => rfl) (fun _ => rfl))) (sound_nil)))
theorem snd_NodeInfo (U : Al (XX w σ S t mg mb) ob) : SoundF (XX w σ S t mg mb) (1 + 1) (.ref 103) (fNode (F_n_init ob)) := by
  refine sound_fNode (fI := 99) (ps := ["self", "node"]) (Df := ⟨_, ["self", "node"], [], 1, true⟩) U.g cls (by kernel_rfl) (by kernel_rfl) (fnOk_of U.g rfl rfl (by kernel_rfl) rfl rfl rfl rfl rfl rfl rfl (by kernel_rfl)) ?_ (fun s self y hk => BindsTo.of_eq rfl) rfl
  unfold B_n_init
  exact ((sound_seq ((sound_sAssign ((sound_loc 1 _ rfl)) ((sound_tgAttrN U.g cls 0 rfl ((sound_loc 0 _ rfl)))) (fun _ _ _ => rfl) (fun _ => rfl) (fun _ => rfl))) ((sound_seq ((sound_sAssign ((sound_int _ _ _)) ((sound_tgAttrN U.g cls 1 rfl ((sound_loc 0 _ rfl)))) (fun _ _ _ => rfl) (fun _ => rfl) (fun _ => rfl))) ((sound_seq ((sound_sAssign ((sound_list _ sl_nil)) ((sound_tgAttrN U.g cls 2 rfl ((sound_loc 0 _ rfl)))) (fun _ _ _ => rfl) (fun _ => rfl) (fun _ => rfl))) (sound_nil)))))))
theorem snd_TopologicalSorter (U : Al (XX w σ S t mg mb) ob) : SoundF (XX w σ S t mg mb) (1 + 1) (.ref 200) (fSorter (F_t_init ob)) := by
  refine sound_fSorter (fI := 136) (ps := ["self", "graph"]) (Df := ⟨_, ["self", "graph", "node", "predecessors"], [], 1, true⟩) U.g cls (by kernel_rfl) (by kernel_rfl) (fnOk_of U.g rfl rfl (by kernel_rfl) rfl rfl rfl rfl rfl rfl rfl (by kernel_rfl)) ?_ (fun s self hk => BindsTo.of_defaults rfl (hk _ _ (U.g.k 129 _ rfl)) rfl rfl rfl) rfl
  unfold B_t_init
  exact ((sound_seq ((sound_sAssign ((sound_eDict0 _)) ((sound_tgAttrI U.g cls 0 rfl ((sound_loc 0 _ rfl)))) (fun _ _ _ => rfl) (fun _ => rfl) (fun _ => rfl))) ((sound_seq ((sound_sAssign ((sound_none _ _)) ((sound_tgAttrI U.g cls 1 rfl ((sound_loc 0 _ rfl)))) (fun _ _ _ => rfl) (fun _ => rfl) (fun _ => rfl))) ((sound_seq ((sound_sAssign ((sound_int _ _ _)) ((sound_tgAttrI U.g cls 2 rfl ((sound_loc 0 _ rfl)))) (fun _ _ _ => rfl) (fun _ => rfl) (fun _ => rfl))) ((sound_seq ((sound_sAssign ((sound_int _ _ _)) ((sound_tgAttrI U.g cls 3 rfl ((sound_loc 0 _ rfl)))) (fun _ _ _ => rfl) (fun _ => rfl) (fun _ => rfl))) ((sound_seq ((sound_sIf ((sound_tCmp _ ((sound_loc 1 _ rfl)) ((sound_none _ _)))) ((sound_seq ((sound_stop _)) (sound_nil))) (sound_nil))) (sound_nil)))))))))))
set_option maxHeartbeats 4000000 in
theorem snd_t_get_nodeinfo (U : Al (XX w σ S t mg mb) ob) : SoundF (XX w σ S t mg mb) 3 (.ref 143) (F_tget_nodeinfo ob) := by
  refine sound_fn (ps := ["self", "node"]) (Df := ⟨_, ["self", "node", "result"], [], 3, true⟩) U.g (fnOk_of U.g rfl rfl (by kernel_rfl) rfl rfl rfl rfl rfl rfl rfl (by kernel_rfl)) ?_ rfl (fun vs hv => match vs, hv with | [_, _], _ => rfl)
  unfold B_tget_nodeinfo
  exact ((sound_seq ((sound_sIf ((sound_tCmp _ ((sound_eWalrus 2 rfl ((sound_meth ((sound_eAttrI U.g cls 0 rfl ((sound_loc 0 _ rfl)) (fun _ _ => rfl))) (((getM_dict F.slot_dict_get rfl))) (fun _ => ⟨_, rfl⟩) (callOk_builtin _) ((sound_get 0)) (by show 0 < 3; omega) (fun h => (nomatch h)) (sl_cons ((sound_loc 1 _ rfl)) (fun _ _ => rfl) sl_nil))))) ((sound_none _ _)))) ((sound_seq ((sound_sAssign2 ((sound_call ((gl_NodeInfo U _ (by kernel_rfl))) (callOk_K U.g (by kernel_rfl)) ((snd_NodeInfo U)) (by show 2 < 3; omega) (fun _ => rfl) (sl_cons ((sound_loc 1 _ rfl)) (fun _ _ => rfl) sl_nil))) ((sound_tgItem _ ((sound_eAttrI U.g cls 0 rfl ((sound_loc 0 _ rfl)) (fun _ _ => rfl))) ((sound_loc 1 _ rfl)))) ((sound_tgLoc 2 _ rfl)) (fun _ => rfl) (fun _ => rfl))) (sound_nil))) (sound_nil))) ((sound_seq ((sound_sRet ((sound_loc 2 _ rfl)))) (sound_nil)))))
theorem snd_t_add (U : Al (XX w σ S t mg mb) ob) : SoundC (XX w σ S t mg mb) 4 (.ref 150) (F_t_add ob) := by
  refine sound_fnStarC (ps := ["self", "node"]) (vn := "predecessors") (Df := ⟨_, ["self", "node", "predecessors", "nodeinfo", "pred", "pred_info"], [], 4, true⟩) U.g (fnOk_of U.g rfl rfl (by kernel_rfl) rfl rfl rfl rfl rfl rfl rfl (by kernel_rfl)) ?_ rfl (fun vs hv => match vs, hv with | [], h => absurd h (by simp) | [_], h => absurd h (by simp) | [_, _], _ => rfl | _ :: _ :: _ :: _, _ => rfl)
  unfold B_t_add
  exact ((sound_seq ((sound_sIf ((sound_tCmp _ ((sound_eAttrI U.g cls 1 rfl ((sound_loc 0 _ rfl)) (fun _ _ => rfl))) ((sound_none _ _)))) ((sound_seq ((sound_stop _)) (sound_nil))) (sound_nil))) ((sound_seq ((sound_sAssign ((sound_meth ((sound_loc 0 _ rfl)) ((getM_inst U.g cls meth_get_nodeinfo)) (fun _ => ⟨_, rfl⟩) (callOk_K U.g (by kernel_rfl)) ((snd_t_get_nodeinfo U)) (by show 3 < 4; omega) (fun _ => rfl) (sl_cons ((sound_loc 1 _ rfl)) (fun _ _ => rfl) sl_nil))) ((sound_tgLoc 3 _ rfl)) (fun _ _ _ => rfl) (fun _ => rfl) (fun _ => rfl))) ((sound_seq ((sound_sAugN U.g cls 1 rfl ((sound_loc 3 _ rfl)) ((sound_call ((gl_len U _ (by kernel_rfl))) (callOk_builtin _) ((sound_len 0)) (by show 0 < 4; omega) (fun h => (nomatch h)) (sl_cons ((sound_loc 2 _ rfl)) (fun _ _ => rfl) sl_nil))))) ((sound_seq ((sound_sFor ((sound_tgLoc 4 _ rfl)) (fun _ _ => rfl) ((sound_loc 2 _ rfl)) (fun _ _ => rfl) rfl ((sound_seq ((sound_sAssign ((sound_meth ((sound_loc 0 _ rfl)) ((getM_inst U.g cls meth_get_nodeinfo)) (fun _ => ⟨_, rfl⟩) (callOk_K U.g (by kernel_rfl)) ((snd_t_get_nodeinfo U)) (by show 3 < 4; omega) (fun _ => rfl) (sl_cons ((sound_loc 4 _ rfl)) (fun _ _ => rfl) sl_nil))) ((sound_tgLoc 5 _ rfl)) (fun _ _ _ => rfl) (fun _ => rfl) (fun _ => rfl))) ((sound_seq ((sound_sExpr ((sound_meth ((sound_eAttrN U.g cls 2 rfl ((sound_loc 5 _ rfl)) (fun _ _ => rfl))) (((getM_list F.slot_list_append rfl))) (fun _ => ⟨_, rfl⟩) (callOk_builtin _) ((sound_append 0)) (by show 0 < 4; omega) (fun h => (nomatch h)) (sl_cons ((sound_loc 1 _ rfl)) (fun _ _ => rfl) sl_nil))) (fun _ _ => rfl))) (sound_nil))))))) (sound_nil)))))))))
set_option maxHeartbeats 4000000 in
theorem snd_t_find_cycle (U : Al (XX w σ S t mg mb) ob) : SoundF (XX w σ S t mg mb) 1 (.ref 190) (F_tfind_cycle ob) := by
  refine sound_fn (ps := ["self"]) (Df := ⟨_, ["self", "n2i", "stack", "itstack", "seen", "node2stacki", "node"], [], 1, true⟩) U.g (fnOk_of U.g rfl rfl (by kernel_rfl) rfl rfl rfl rfl rfl rfl rfl (by kernel_rfl)) ?_ rfl (fun vs hv => match vs, hv with | [_], _ => rfl)
  unfold B_tfind_cycle
  exact ((sound_seq ((sound_sAssign ((sound_eAttrI U.g cls 0 rfl ((sound_loc 0 _ rfl)) (fun _ _ => rfl))) ((sound_tgLoc 1 _ rfl)) (fun _ _ _ => rfl) (fun _ => rfl) (fun _ => rfl))) ((sound_seq ((sound_sAssign ((sound_list _ sl_nil)) ((sound_tgLoc 2 _ rfl)) (fun _ _ _ => rfl) (fun _ => rfl) (fun _ => rfl))) ((sound_seq ((sound_sAssign ((sound_list _ sl_nil)) ((sound_tgLoc 3 _ rfl)) (fun _ _ _ => rfl) (fun _ => rfl) (fun _ => rfl))) ((sound_seq ((sound_sAssign ((sound_call ((gl_set U _ (by kernel_rfl))) (callOk_type _) ((sound_set 0)) (by show 0 < 1; omega) (fun h => (nomatch h)) sl_nil)) ((sound_tgLoc 4 _ rfl)) (fun _ _ _ => rfl) (fun _ => rfl) (fun _ => rfl))) ((sound_seq ((sound_sAssign ((sound_eDict0 _)) ((sound_tgLoc 5 _ rfl)) (fun _ _ _ => rfl) (fun _ => rfl) (fun _ => rfl))) ((sound_seq ((sound_sFor ((sound_tgLoc 6 _ rfl)) (fun _ _ => rfl) ((sound_loc 1 _ rfl)) (fun _ _ => rfl) rfl ((sound_seq ((sound_sIf ((sound_tCmp _ ((sound_loc 6 _ rfl)) ((sound_loc 4 _ rfl)))) ((sound_seq ((sound_sCont _)) (sound_nil))) (sound_nil))) ((sound_seq ((sound_sWhile ((sound_tVal ((sound_bool _ _ _)))) ((sound_seq ((sound_sIf ((sound_tCmp _ ((sound_loc 6 _ rfl)) ((sound_loc 4 _ rfl)))) ((sound_seq ((sound_sIf ((sound_tCmp _ ((sound_loc 6 _ rfl)) ((sound_loc 5 _ rfl)))) ((sound_seq ((sound_stop _)) (sound_nil))) (sound_nil))) (sound_nil))) ((sound_seq ((sound_sExpr ((sound_meth ((sound_loc 4 _ rfl)) ((getM_set)) (fun _ => ⟨_, rfl⟩) (callOk_builtin _) ((sound_add 0)) (by show 0 < 1; omega) (fun h => (nomatch h)) (sl_cons ((sound_loc 6 _ rfl)) (fun _ _ => rfl) sl_nil))) (fun _ _ => rfl))) ((sound_seq ((sound_sExpr ((sound_meth ((sound_loc 3 _ rfl)) (((getM_list F.slot_list_append rfl))) (fun _ => ⟨_, rfl⟩) (callOk_builtin _) ((sound_append 0)) (by show 0 < 1; omega) (fun h => (nomatch h)) (sl_cons ((sound_eNextOf ((sound_call ((gl_iter U _ (by kernel_rfl))) (callOk_builtin _) ((sound_fIter 0)) (by show 0 < 1; omega) (fun h => (nomatch h)) (sl_cons ((sound_eAttrN U.g cls 2 rfl ((sound_eItem _ ((sound_loc 1 _ rfl)) ((sound_loc 6 _ rfl)) (fun _ _ => rfl))) (fun _ _ => rfl))) (fun _ _ => rfl) sl_nil))) (fun _ _ => rfl))) (fun _ _ => rfl) sl_nil))) (fun _ _ => rfl))) ((sound_seq ((sound_sAssign ((sound_call ((gl_len U _ (by kernel_rfl))) (callOk_builtin _) ((sound_len 0)) (by show 0 < 1; omega) (fun h => (nomatch h)) (sl_cons ((sound_loc 2 _ rfl)) (fun _ _ => rfl) sl_nil))) ((sound_tgItem _ ((sound_loc 5 _ rfl)) ((sound_loc 6 _ rfl)))) (fun _ _ _ => rfl) (fun _ => rfl) (fun _ => rfl))) ((sound_seq ((sound_sExpr ((sound_meth ((sound_loc 2 _ rfl)) (((getM_list F.slot_list_append rfl))) (fun _ => ⟨_, rfl⟩) (callOk_builtin _) ((sound_append 0)) (by show 0 < 1; omega) (fun h => (nomatch h)) (sl_cons ((sound_loc 6 _ rfl)) (fun _ _ => rfl) sl_nil))) (fun _ _ => rfl))) (sound_nil))))))))))) ((sound_seq ((sound_sWhile ((sound_tVal ((sound_loc 2 _ rfl)))) ((sound_seq ((sound_sTryNext U.g rfl ((sound_eItem _ ((sound_loc 3 _ rfl)) ((sound_neg _ ((sound_int _ _ _)))) (fun _ _ => rfl))) ((sound_tgLoc 6 _ rfl)) ((sound_seq ((sound_sBrk _)) (sound_nil))) ((sound_seq ((sound_sDel ((sound_loc 5 _ rfl)) ((sound_meth ((sound_loc 2 _ rfl)) (((getM_list F.slot_list_pop rfl))) (fun _ => ⟨_, rfl⟩) (callOk_builtin _) ((sound_pop 0)) (by show 0 < 1; omega) (fun h => (nomatch h)) sl_nil)))) ((sound_seq ((sound_sExpr ((sound_meth ((sound_loc 3 _ rfl)) (((getM_list F.slot_list_pop rfl))) (fun _ => ⟨_, rfl⟩) (callOk_builtin _) ((sound_pop 0)) (by show 0 < 1; omega) (fun h => (nomatch h)) sl_nil)) (fun _ _ => rfl))) (sound_nil))))) (fun _ => rfl) (fun _ _ _ => rfl) (fun _ => rfl) (fun _ => rfl) (by kernel_rfl) (by kernel_rfl))) (sound_nil))) ((sound_seq ((sound_sBrk _)) (sound_nil))))) (sound_nil))))) (sound_nil))) (sound_nil))))))) ((sound_seq ((sound_sRet ((sound_none _ _)))) (sound_nil)))))))))))))))
set_option maxHeartbeats 4000000 in
theorem snd_t_prepare (U : Al (XX w σ S t mg mb) ob) : SoundF (XX w σ S t mg mb) 2 (.ref 155) (F_t_prepare ob) := by
  refine sound_fn (ps := ["self"]) (Df := ⟨_, ["self", "cycle"], [], 2, true⟩) U.g (fnOk_of U.g rfl rfl (by kernel_rfl) rfl rfl rfl rfl rfl rfl rfl (by kernel_rfl)) ?_ rfl (fun vs hv => match vs, hv with | [_], _ => rfl)
  unfold B_t_prepare
  exact ((sound_seq ((sound_sIf ((sound_tCmp _ ((sound_eAttrI U.g cls 1 rfl ((sound_loc 0 _ rfl)) (fun _ _ => rfl))) ((sound_none _ _)))) ((sound_seq ((sound_stop _)) (sound_nil))) (sound_nil))) ((sound_seq ((sound_sAssign ((sound_eComp rfl (compOk_of (ns := ["i"]) (fnames := []) (own := none) (by kernel_rfl)) ((sound_meth ((sound_eAttrI U.g cls 0 rfl ((sound_loc 0 _ rfl)) (fun _ _ => rfl))) (((getM_dict F.slot_dict_values rfl))) (fun _ => ⟨_, rfl⟩) (callOk_builtin _) ((sound_values 0)) (by show 0 < 2; omega) (fun h => (nomatch h)) sl_nil)) (fun _ _ => rfl) ((sound_tgLoc 0 _ rfl)) (fun _ _ => rfl) ((sound_ifs ((sound_tCmp _ ((sound_eAttrN U.g cls 1 rfl ((sound_loc 0 _ rfl)) (fun _ _ => rfl))) ((sound_int _ _ _)))))) ((sound_eAttrN U.g cls 0 rfl ((sound_loc 0 _ rfl)) (fun _ _ => rfl))))) ((sound_tgAttrI U.g cls 1 rfl ((sound_loc 0 _ rfl)))) (fun _ _ _ => rfl) (fun _ => rfl) (fun _ => rfl))) ((sound_seq ((sound_sAssign ((sound_meth ((sound_loc 0 _ rfl)) ((getM_inst U.g cls meth_find_cycle)) (fun _ => ⟨_, rfl⟩) (callOk_K U.g (by kernel_rfl)) ((snd_t_find_cycle U)) (by show 1 < 2; omega) (fun _ => rfl) sl_nil)) ((sound_tgLoc 1 _ rfl)) (fun _ _ _ => rfl) (fun _ => rfl) (fun _ => rfl))) ((sound_seq ((sound_sIf ((sound_tVal ((sound_loc 1 _ rfl)))) ((sound_seq ((sound_stop _)) (sound_nil))) (sound_nil))) (sound_nil)))))))))
set_option maxHeartbeats 4000000 in
theorem snd_t_get_ready (U : Al (XX w σ S t mg mb) ob) : SoundF (XX w σ S t mg mb) 1 (.ref 162) (F_t_get_ready ob) := by
  refine sound_fn (ps := ["self"]) (Df := ⟨_, ["self", "result", "n2i", "node"], [], 1, true⟩) U.g (fnOk_of U.g rfl rfl (by kernel_rfl) rfl rfl rfl rfl rfl rfl rfl (by kernel_rfl)) ?_ rfl (fun vs hv => match vs, hv with | [_], _ => rfl)
  unfold B_t_get_ready
  exact ((sound_seq ((sound_sIf ((sound_tCmp _ ((sound_eAttrI U.g cls 1 rfl ((sound_loc 0 _ rfl)) (fun _ _ => rfl))) ((sound_none _ _)))) ((sound_seq ((sound_stop _)) (sound_nil))) (sound_nil))) ((sound_seq ((sound_sAssign ((sound_call ((gl_tuple U _ (by kernel_rfl))) (callOk_type _) ((sound_tuple 0)) (by show 0 < 1; omega) (fun h => (nomatch h)) (sl_cons ((sound_eAttrI U.g cls 1 rfl ((sound_loc 0 _ rfl)) (fun _ _ => rfl))) (fun _ _ => rfl) sl_nil))) ((sound_tgLoc 1 _ rfl)) (fun _ _ _ => rfl) (fun _ => rfl) (fun _ => rfl))) ((sound_seq ((sound_sAssign ((sound_eAttrI U.g cls 0 rfl ((sound_loc 0 _ rfl)) (fun _ _ => rfl))) ((sound_tgLoc 2 _ rfl)) (fun _ _ _ => rfl) (fun _ => rfl) (fun _ => rfl))) ((sound_seq ((sound_sFor ((sound_tgLoc 3 _ rfl)) (fun _ _ => rfl) ((sound_loc 1 _ rfl)) (fun _ _ => rfl) rfl ((sound_seq ((sound_sAssign ((gl_NODE_OUT U _ (by kernel_rfl))) ((sound_tgAttrN U.g cls 1 rfl ((sound_eItem _ ((sound_loc 2 _ rfl)) ((sound_loc 3 _ rfl)) (fun _ _ => rfl))))) (fun _ _ _ => rfl) (fun _ => rfl) (fun _ => rfl))) (sound_nil))))) ((sound_seq ((sound_sExpr ((sound_meth ((sound_eAttrI U.g cls 1 rfl ((sound_loc 0 _ rfl)) (fun _ _ => rfl))) (((getM_list F.slot_list_clear rfl))) (fun _ => ⟨_, rfl⟩) (callOk_builtin _) ((sound_clear 0)) (by show 0 < 1; omega) (fun h => (nomatch h)) sl_nil)) (fun _ _ => rfl))) ((sound_seq ((sound_sAugI U.g cls 2 rfl ((sound_loc 0 _ rfl)) ((sound_call ((gl_len U _ (by kernel_rfl))) (callOk_builtin _) ((sound_len 0)) (by show 0 < 1; omega) (fun h => (nomatch h)) (sl_cons ((sound_loc 1 _ rfl)) (fun _ _ => rfl) sl_nil))))) ((sound_seq ((sound_sRet ((sound_loc 1 _ rfl)))) (sound_nil)))))))))))))))
theorem snd_t_done (U : Al (XX w σ S t mg mb) ob) : SoundC (XX w σ S t mg mb) 1 (.ref 183) (F_t_done ob) := by
  refine sound_fnStarC (ps := ["self"]) (vn := "nodes") (Df := ⟨_, ["self", "nodes", "n2i", "node", "nodeinfo", "stat", "successor", "successor_info"], [], 1, true⟩) U.g (fnOk_of U.g rfl rfl (by kernel_rfl) rfl rfl rfl rfl rfl rfl rfl (by kernel_rfl)) ?_ rfl (fun vs hv => match vs, hv with | [], h => absurd h (by simp) | [_], _ => rfl | _ :: _ :: _, _ => rfl)
  unfold B_t_done
  exact ((sound_seq ((sound_sIf ((sound_tCmp _ ((sound_eAttrI U.g cls 1 rfl ((sound_loc 0 _ rfl)) (fun _ _ => rfl))) ((sound_none _ _)))) ((sound_seq ((sound_stop _)) (sound_nil))) (sound_nil))) ((sound_seq ((sound_sAssign ((sound_eAttrI U.g cls 0 rfl ((sound_loc 0 _ rfl)) (fun _ _ => rfl))) ((sound_tgLoc 2 _ rfl)) (fun _ _ _ => rfl) (fun _ => rfl) (fun _ => rfl))) ((sound_seq ((sound_sFor ((sound_tgLoc 3 _ rfl)) (fun _ _ => rfl) ((sound_loc 1 _ rfl)) (fun _ _ => rfl) rfl ((sound_seq ((sound_sIf ((sound_tCmp _ ((sound_eWalrus 4 rfl ((sound_meth ((sound_loc 2 _ rfl)) (((getM_dict F.slot_dict_get rfl))) (fun _ => ⟨_, rfl⟩) (callOk_builtin _) ((sound_get 0)) (by show 0 < 1; omega) (fun h => (nomatch h)) (sl_cons ((sound_loc 3 _ rfl)) (fun _ _ => rfl) sl_nil))))) ((sound_none _ _)))) ((sound_seq ((sound_stop _)) (sound_nil))) (sound_nil))) ((sound_seq ((sound_sAssign ((sound_eAttrN U.g cls 1 rfl ((sound_loc 4 _ rfl)) (fun _ _ => rfl))) ((sound_tgLoc 5 _ rfl)) (fun _ _ _ => rfl) (fun _ => rfl) (fun _ => rfl))) ((sound_seq ((sound_sIf ((sound_tCmp _ ((sound_loc 5 _ rfl)) ((gl_NODE_OUT U _ (by kernel_rfl))))) ((sound_seq ((sound_sIf ((sound_tCmp _ ((sound_loc 5 _ rfl)) ((sound_int _ _ _)))) ((sound_seq ((sound_stop _)) (sound_nil))) ((sound_seq ((sound_sIf ((sound_tCmp _ ((sound_loc 5 _ rfl)) ((gl_NODE_DONE U _ (by kernel_rfl))))) ((sound_seq ((sound_stop _)) (sound_nil))) ((sound_seq ((sound_stop _)) (sound_nil))))) (sound_nil))))) (sound_nil))) (sound_nil))) ((sound_seq ((sound_sAssign ((gl_NODE_DONE U _ (by kernel_rfl))) ((sound_tgAttrN U.g cls 1 rfl ((sound_loc 4 _ rfl)))) (fun _ _ _ => rfl) (fun _ => rfl) (fun _ => rfl))) ((sound_seq ((sound_sFor ((sound_tgLoc 6 _ rfl)) (fun _ _ => rfl) ((sound_eAttrN U.g cls 2 rfl ((sound_loc 4 _ rfl)) (fun _ _ => rfl))) (fun _ _ => rfl) rfl ((sound_seq ((sound_sAssign ((sound_eItem _ ((sound_loc 2 _ rfl)) ((sound_loc 6 _ rfl)) (fun _ _ => rfl))) ((sound_tgLoc 7 _ rfl)) (fun _ _ _ => rfl) (fun _ => rfl) (fun _ => rfl))) ((sound_seq ((sound_sAugN U.g cls 1 rfl ((sound_loc 7 _ rfl)) ((sound_int _ _ _)))) ((sound_seq ((sound_sIf ((sound_tCmp _ ((sound_eAttrN U.g cls 1 rfl ((sound_loc 7 _ rfl)) (fun _ _ => rfl))) ((sound_int _ _ _)))) ((sound_seq ((sound_sExpr ((sound_meth ((sound_eAttrI U.g cls 1 rfl ((sound_loc 0 _ rfl)) (fun _ _ => rfl))) (((getM_list F.slot_list_append rfl))) (fun _ => ⟨_, rfl⟩) (callOk_builtin _) ((sound_append 0)) (by show 0 < 1; omega) (fun h => (nomatch h)) (sl_cons ((sound_loc 6 _ rfl)) (fun _ _ => rfl) sl_nil))) (fun _ _ => rfl))) (sound_nil))) (sound_nil))) (sound_nil))))))))) ((sound_seq ((sound_sAugI U.g cls 3 rfl ((sound_loc 0 _ rfl)) ((sound_int _ _ _)))) (sound_nil))))))))))))))) (sound_nil)))))))
set_option maxHeartbeats 4000000 in
theorem snd_law_needs (U : Al (XX w σ S t mg mb) ob) : SoundF (XX w σ S t mg mb) 1 (.ref 209) (F_law_needs ob) := by
  refine sound_fn (ps := ["script"]) (Df := ⟨_, ["script", "needs"], ["numbers", "k"], 1, true⟩) U.g (fnOk_of U.g rfl rfl (by kernel_rfl) rfl rfl rfl rfl rfl rfl rfl (by kernel_rfl)) ?_ rfl (fun vs hv => match vs, hv with | [_], _ => rfl)
  unfold B_law_needs
  exact ((sound_seq ((sound_sAssign ((sound_bin U.ho _ ((sound_bin U.ho _ ((sound_list _ (sl_cons ((sound_int _ _ _)) (fun _ _ => rfl) sl_nil))) ((sound_eTop U.z _ _ _ _ ((sound_loc 0 _ rfl)))))) ((sound_list _ (sl_cons ((sound_int _ _ _)) (fun _ _ => rfl) (sl_cons ((sound_int _ _ _)) (fun _ _ => rfl) (sl_cons ((sound_int _ _ _)) (fun _ _ => rfl) sl_nil))))))) ((sound_tgCel 0 _ rfl (by kernel_rfl))) (fun _ _ _ => rfl) (fun _ => rfl) (fun _ => rfl))) ((sound_seq ((sound_sAssign ((sound_list _ sl_nil)) ((sound_tgLoc 1 _ rfl)) (fun _ _ _ => rfl) (fun _ => rfl) (fun _ => rfl))) ((sound_seq ((sound_sFor ((sound_tgCel 1 _ rfl (by kernel_rfl))) (fun _ _ => rfl) ((sound_call ((gl_range U _ (by kernel_rfl))) (callOk_type _) ((sound_range 0)) (by show 0 < 1; omega) (fun h => (nomatch h)) (sl_cons ((sound_call ((gl_len U _ (by kernel_rfl))) (callOk_builtin _) ((sound_len 0)) (by show 0 < 1; omega) (fun h => (nomatch h)) (sl_cons ((sound_cel 0 _ rfl)) (fun _ _ => rfl) sl_nil))) (fun _ _ => rfl) sl_nil))) (fun _ _ => rfl) rfl ((sound_seq ((sound_sExpr ((sound_meth ((sound_loc 1 _ rfl)) (((getM_list F.slot_list_append rfl))) (fun _ => ⟨_, rfl⟩) (callOk_builtin _) ((sound_append 0)) (by show 0 < 1; omega) (fun h => (nomatch h)) (sl_cons ((sound_eComp rfl (compOk_of (ns := ["low"]) (fnames := ["numbers", "k"]) (own := none) (by kernel_rfl)) ((sound_call ((gl_range U _ (by kernel_rfl))) (callOk_type _) ((sound_range 0)) (by show 0 < 1; omega) (fun h => (nomatch h)) (sl_cons ((sound_cel 1 _ rfl)) (fun _ _ => rfl) sl_nil))) (fun _ _ => rfl) ((sound_tgLoc 0 _ rfl)) (fun _ _ => rfl) ((sound_ifs ((sound_tCmp _ ((sound_bin U.ho _ ((sound_bin U.ho _ ((sound_eItem _ ((sound_cel 0 _ rfl)) ((sound_cel 1 _ rfl)) (fun _ _ => rfl))) ((sound_bin U.ho _ ((sound_int _ _ _)) ((sound_loc 0 _ rfl)))))) ((sound_int _ _ _)))) ((sound_int _ _ _)))))) ((sound_loc 0 _ rfl)))) (fun _ _ => rfl) sl_nil))) (fun _ _ => rfl))) (sound_nil))))) ((sound_seq ((sound_sRet ((sound_loc 1 _ rfl)))) (sound_nil)))))))))
set_option maxHeartbeats 4000000 in
theorem snd_law_order (U : Al (XX w σ S t mg mb) ob) : SoundF (XX w σ S t mg mb) 5 (.ref 216) (F_law_order ob) := by
  refine sound_fn (ps := ["needs"]) (Df := ⟨_, ["needs", "sorter", "k", "order", "turn", "ready"], [], 5, true⟩) U.g (fnOk_of U.g rfl rfl (by kernel_rfl) rfl rfl rfl rfl rfl rfl rfl (by kernel_rfl)) ?_ rfl (fun vs hv => match vs, hv with | [_], _ => rfl)
  unfold B_law_order
  exact ((sound_seq ((sound_sAssign ((sound_call ((gl_TopologicalSorter U _ (by kernel_rfl))) (callOk_K U.g (by kernel_rfl)) ((snd_TopologicalSorter U)) (by show 2 < 5; omega) (fun _ => rfl) sl_nil)) ((sound_tgLoc 1 _ rfl)) (fun _ _ _ => rfl) (fun _ => rfl) (fun _ => rfl))) ((sound_seq ((sound_sFor ((sound_tgLoc 2 _ rfl)) (fun _ _ => rfl) ((sound_call ((gl_range U _ (by kernel_rfl))) (callOk_type _) ((sound_range 0)) (by show 0 < 5; omega) (fun h => (nomatch h)) (sl_cons ((sound_bin U.ho _ ((sound_call ((gl_len U _ (by kernel_rfl))) (callOk_builtin _) ((sound_len 0)) (by show 0 < 5; omega) (fun h => (nomatch h)) (sl_cons ((sound_loc 0 _ rfl)) (fun _ _ => rfl) sl_nil))) ((sound_int _ _ _)))) (fun _ _ => rfl) (sl_cons ((sound_neg _ ((sound_int _ _ _)))) (fun _ _ => rfl) (sl_cons ((sound_neg _ ((sound_int _ _ _)))) (fun _ _ => rfl) sl_nil))))) (fun _ _ => rfl) rfl ((sound_seq ((sound_sExpr ((sound_methStar U.g cls meth_add fo_add (by kernel_rfl) ((snd_t_add U)) (by show 4 < 5; omega) rfl ((sound_loc 1 _ rfl)) (sl_cons ((sound_loc 2 _ rfl)) (fun _ _ => rfl) sl_nil) ((sound_eItem _ ((sound_loc 0 _ rfl)) ((sound_loc 2 _ rfl)) (fun _ _ => rfl))) (fun _ => rfl) (fun _ => rfl))) (fun _ _ => rfl))) (sound_nil))))) ((sound_seq ((sound_sExpr ((sound_meth ((sound_loc 1 _ rfl)) ((getM_inst U.g cls meth_prepare)) (fun _ => ⟨_, rfl⟩) (callOk_K U.g (by kernel_rfl)) ((snd_t_prepare U)) (by show 2 < 5; omega) (fun _ => rfl) sl_nil)) (fun _ _ => rfl))) ((sound_seq ((sound_sAssign ((sound_list _ sl_nil)) ((sound_tgLoc 3 _ rfl)) (fun _ _ _ => rfl) (fun _ => rfl) (fun _ => rfl))) ((sound_seq ((sound_sFor ((sound_tgLoc 4 _ rfl)) (fun _ _ => rfl) ((sound_call ((gl_range U _ (by kernel_rfl))) (callOk_type _) ((sound_range 0)) (by show 0 < 5; omega) (fun h => (nomatch h)) (sl_cons ((sound_call ((gl_len U _ (by kernel_rfl))) (callOk_builtin _) ((sound_len 0)) (by show 0 < 5; omega) (fun h => (nomatch h)) (sl_cons ((sound_loc 0 _ rfl)) (fun _ _ => rfl) sl_nil))) (fun _ _ => rfl) sl_nil))) (fun _ _ => rfl) rfl ((sound_seq ((sound_sAssign ((sound_meth ((sound_loc 1 _ rfl)) ((getM_inst U.g cls meth_get_ready)) (fun _ => ⟨_, rfl⟩) (callOk_K U.g (by kernel_rfl)) ((snd_t_get_ready U)) (by show 1 < 5; omega) (fun _ => rfl) sl_nil)) ((sound_tgLoc 5 _ rfl)) (fun _ _ _ => rfl) (fun _ => rfl) (fun _ => rfl))) ((sound_seq ((sound_sExpr ((sound_meth ((sound_loc 3 _ rfl)) (((getM_list F.slot_list_extend rfl))) (fun _ => ⟨_, rfl⟩) (callOk_builtin _) ((sound_extend 0)) (by show 0 < 5; omega) (fun h => (nomatch h)) (sl_cons ((sound_loc 5 _ rfl)) (fun _ _ => rfl) sl_nil))) (fun _ _ => rfl))) ((sound_seq ((sound_sExpr ((sound_methStar U.g cls meth_done fo_done (by kernel_rfl) ((snd_t_done U)) (by show 1 < 5; omega) rfl ((sound_loc 1 _ rfl)) sl_nil ((sound_loc 5 _ rfl)) (fun _ => rfl) (fun _ => rfl))) (fun _ _ => rfl))) (sound_nil))))))))) ((sound_seq ((sound_sRet ((sound_loc 3 _ rfl)))) (sound_nil)))))))))))))
set_option maxHeartbeats 4000000 in
theorem snd_law_table (U : Al (XX w σ S t mg mb) ob) : SoundF (XX w σ S t mg mb) 6 (.ref 221) (F_law_table ob) := by
  refine sound_fn (ps := ["needs"]) (Df := ⟨_, ["table", "need", "under", "low", "total", "middle"], ["needs", "below", "high"], 6, true⟩) U.g (fnOk_of U.g rfl rfl (by kernel_rfl) rfl rfl rfl rfl rfl rfl rfl (by kernel_rfl)) ?_ rfl (fun vs hv => match vs, hv with | [_], _ => rfl)
  unfold B_law_table
  exact ((sound_seq ((sound_sAssign ((sound_eComp rfl (compOk_of (ns := ["row"]) (fnames := []) (own := none) (by kernel_rfl)) ((sound_cel 0 _ rfl)) (fun _ _ => rfl) ((sound_tgLoc 0 _ rfl)) (fun _ _ => rfl) (sound_noIfs) ((sound_int _ _ _)))) ((sound_tgCel 1 _ rfl (by kernel_rfl))) (swaps_cell (by kernel_rfl)) (fun _ => rfl) (fun _ => rfl))) ((sound_seq ((sound_sAssignC rfl rfl (compOk_of (ns := ["row"]) (fnames := ["needs"]) (own := none) (by kernel_rfl)) ((sound_cel 0 _ rfl)) (fun _ _ => rfl) ((sound_tgLoc 0 _ rfl)) (fun _ _ => rfl) (sound_noIfs) ((sound_eComp rfl (compOk_of (ns := ["row"]) (fnames := []) (own := none) (by kernel_rfl)) ((sound_cel 0 _ rfl)) (fun _ _ => rfl) ((sound_tgLoc 0 _ rfl)) (fun _ _ => rfl) (sound_noIfs) ((sound_int _ _ _)))) (swaps_local (by kernel_rfl) (by kernel_rfl) (by kernel_rfl)))) ((sound_seq ((sound_sFor ((sound_tgCel 2 _ rfl (by kernel_rfl))) (fun _ _ => rfl) ((sound_call ((gl_law_order U _ (by kernel_rfl))) (callOk_K U.g (by kernel_rfl)) ((snd_law_order U)) (by show 5 < 6; omega) (fun _ => rfl) (sl_cons ((sound_cel 0 _ rfl)) (fun _ _ => rfl) sl_nil))) (fun _ _ => rfl) rfl ((sound_seq ((sound_sExpr ((sound_call ((gl_setitem U _ (by kernel_rfl))) (callOk_K U.g (by kernel_rfl)) ((snd_setitem U)) (by show 1 < 6; omega) (fun _ => rfl) (sl_cons ((sound_cel 1 _ rfl)) (fun _ _ => rfl) (sl_cons ((sound_cel 2 _ rfl)) (fun _ _ => rfl) (sl_cons ((sound_call ((gl_lshift U _ (by kernel_rfl))) (callOk_K U.g (by kernel_rfl)) ((snd_lshift U)) (by show 1 < 6; omega) (fun _ => rfl) (sl_cons ((sound_int _ _ _)) (fun _ _ => rfl) (sl_cons ((sound_cel 2 _ rfl)) (fun _ _ => rfl) sl_nil)))) (fun _ _ => rfl) sl_nil))))) (fun _ _ => rfl))) ((sound_seq ((sound_sFor ((sound_tgLoc 1 _ rfl)) (fun _ _ => rfl) ((sound_eItem _ ((sound_cel 0 _ rfl)) ((sound_cel 2 _ rfl)) (fun _ _ => rfl))) (fun _ _ => rfl) rfl ((sound_seq ((sound_sExpr ((sound_call ((gl_setitem U _ (by kernel_rfl))) (callOk_K U.g (by kernel_rfl)) ((snd_setitem U)) (by show 1 < 6; omega) (fun _ => rfl) (sl_cons ((sound_cel 1 _ rfl)) (fun _ _ => rfl) (sl_cons ((sound_cel 2 _ rfl)) (fun _ _ => rfl) (sl_cons ((sound_call ((gl_or_ U _ (by kernel_rfl))) (callOk_K U.g (by kernel_rfl)) ((snd_or_ U)) (by show 1 < 6; omega) (fun _ => rfl) (sl_cons ((sound_call ((gl_getitem U _ (by kernel_rfl))) (callOk_K U.g (by kernel_rfl)) ((snd_getitem U)) (by show 1 < 6; omega) (fun _ => rfl) (sl_cons ((sound_cel 1 _ rfl)) (fun _ _ => rfl) (sl_cons ((sound_cel 2 _ rfl)) (fun _ _ => rfl) sl_nil)))) (fun _ _ => rfl) (sl_cons ((sound_call ((gl_getitem U _ (by kernel_rfl))) (callOk_K U.g (by kernel_rfl)) ((snd_getitem U)) (by show 1 < 6; omega) (fun _ => rfl) (sl_cons ((sound_cel 1 _ rfl)) (fun _ _ => rfl) (sl_cons ((sound_loc 1 _ rfl)) (fun _ _ => rfl) sl_nil)))) (fun _ _ => rfl) sl_nil)))) (fun _ _ => rfl) sl_nil))))) (fun _ _ => rfl))) (sound_nil))))) ((sound_seq ((sound_sAssignC rfl rfl (compOk_of (ns := ["low"]) (fnames := ["below", "high"]) (own := none) (by kernel_rfl)) ((sound_call ((gl_range U _ (by kernel_rfl))) (callOk_type _) ((sound_range 0)) (by show 0 < 6; omega) (fun h => (nomatch h)) (sl_cons ((sound_call ((gl_len U _ (by kernel_rfl))) (callOk_builtin _) ((sound_len 0)) (by show 0 < 6; omega) (fun h => (nomatch h)) (sl_cons ((sound_cel 0 _ rfl)) (fun _ _ => rfl) sl_nil))) (fun _ _ => rfl) sl_nil))) (fun _ _ => rfl) ((sound_tgLoc 0 _ rfl)) (fun _ _ => rfl) ((sound_ifs ((sound_tVal ((sound_call ((gl_truth U _ (by kernel_rfl))) (callOk_K U.g (by kernel_rfl)) ((snd_truth U)) (by show 1 < 6; omega) (fun _ => rfl) (sl_cons ((sound_call ((gl_and_ U _ (by kernel_rfl))) (callOk_K U.g (by kernel_rfl)) ((snd_and_ U)) (by show 1 < 6; omega) (fun _ => rfl) (sl_cons ((sound_eItem _ ((sound_cel 0 _ rfl)) ((sound_cel 1 _ rfl)) (fun _ _ => rfl))) (fun _ _ => rfl) (sl_cons ((sound_call ((gl_lshift U _ (by kernel_rfl))) (callOk_K U.g (by kernel_rfl)) ((snd_lshift U)) (by show 1 < 6; omega) (fun _ => rfl) (sl_cons ((sound_int _ _ _)) (fun _ _ => rfl) (sl_cons ((sound_loc 0 _ rfl)) (fun _ _ => rfl) sl_nil)))) (fun _ _ => rfl) sl_nil)))) (fun _ _ => rfl) sl_nil))))))) ((sound_loc 0 _ rfl)) (swaps_local (by kernel_rfl) (by kernel_rfl) (by kernel_rfl)))) ((sound_seq ((sound_sFor ((sound_tgLoc 3 _ rfl)) (fun _ _ => rfl) ((sound_loc 2 _ rfl)) (fun _ _ => rfl) rfl ((sound_seq ((sound_sAssign ((sound_int _ _ _)) ((sound_tgLoc 4 _ rfl)) (fun _ _ _ => rfl) (fun _ => rfl) (fun _ => rfl))) ((sound_seq ((sound_sFor ((sound_tgLoc 5 _ rfl)) (fun _ _ => rfl) ((sound_loc 2 _ rfl)) (fun _ _ => rfl) rfl ((sound_seq ((sound_sAssign ((sound_call ((gl_add U _ (by kernel_rfl))) (callOk_K U.g (by kernel_rfl)) ((snd_add U)) (by show 1 < 6; omega) (fun _ => rfl) (sl_cons ((sound_loc 4 _ rfl)) (fun _ _ => rfl) (sl_cons ((sound_call ((gl_getitem U _ (by kernel_rfl))) (callOk_K U.g (by kernel_rfl)) ((snd_getitem U)) (by show 1 < 6; omega) (fun _ => rfl) (sl_cons ((sound_eItem _ ((sound_loc 0 _ rfl)) ((sound_loc 3 _ rfl)) (fun _ _ => rfl))) (fun _ _ => rfl) (sl_cons ((sound_loc 5 _ rfl)) (fun _ _ => rfl) sl_nil)))) (fun _ _ => rfl) sl_nil)))) ((sound_tgLoc 4 _ rfl)) (fun _ _ _ => rfl) (fun _ => rfl) (fun _ => rfl))) (sound_nil))))) ((sound_seq ((sound_sExpr ((sound_call ((gl_setitem U _ (by kernel_rfl))) (callOk_K U.g (by kernel_rfl)) ((snd_setitem U)) (by show 1 < 6; omega) (fun _ => rfl) (sl_cons ((sound_eItem _ ((sound_loc 0 _ rfl)) ((sound_loc 3 _ rfl)) (fun _ _ => rfl))) (fun _ _ => rfl) (sl_cons ((sound_cel 2 _ rfl)) (fun _ _ => rfl) (sl_cons ((sound_if _ ((sound_tCmp _ ((sound_loc 3 _ rfl)) ((sound_cel 2 _ rfl)))) ((sound_int _ _ _)) ((sound_call ((gl_neg U _ (by kernel_rfl))) (callOk_K U.g (by kernel_rfl)) ((snd_neg U)) (by show 1 < 6; omega) (fun _ => rfl) (sl_cons ((sound_loc 4 _ rfl)) (fun _ _ => rfl) sl_nil))))) (fun _ _ => rfl) sl_nil))))) (fun _ _ => rfl))) (sound_nil))))))))) (sound_nil))))))))))) ((sound_seq ((sound_sRet ((sound_tup _ _ (sl_cons ((sound_cel 1 _ rfl)) (fun _ _ => rfl) (sl_cons ((sound_loc 0 _ rfl)) (fun _ _ => rfl) sl_nil)))))) (sound_nil)))))))))
set_option maxHeartbeats 4000000 in
theorem snd_law_under (U : Al (XX w σ S t mg mb) ob) : SoundF (XX w σ S t mg mb) 1 (.ref 226) (F_law_under ob) := by
  refine sound_fn (ps := ["needs"]) (Df := ⟨_, [], ["needs", "under", "k"], 1, true⟩) U.g (fnOk_of U.g rfl rfl (by kernel_rfl) rfl rfl rfl rfl rfl rfl rfl (by kernel_rfl)) ?_ rfl (fun vs hv => match vs, hv with | [_], _ => rfl)
  unfold B_law_under
  exact ((sound_seq ((sound_sAssign ((sound_list _ sl_nil)) ((sound_tgCel 1 _ rfl (by kernel_rfl))) (fun _ _ _ => rfl) (fun _ => rfl) (fun _ => rfl))) ((sound_seq ((sound_sFor ((sound_tgCel 2 _ rfl (by kernel_rfl))) (fun _ _ => rfl) ((sound_call ((gl_range U _ (by kernel_rfl))) (callOk_type _) ((sound_range 0)) (by show 0 < 1; omega) (fun h => (nomatch h)) (sl_cons ((sound_call ((gl_len U _ (by kernel_rfl))) (callOk_builtin _) ((sound_len 0)) (by show 0 < 1; omega) (fun h => (nomatch h)) (sl_cons ((sound_cel 0 _ rfl)) (fun _ _ => rfl) sl_nil))) (fun _ _ => rfl) sl_nil))) (fun _ _ => rfl) rfl ((sound_seq ((sound_sExpr ((sound_meth ((sound_cel 1 _ rfl)) (((getM_list F.slot_list_append rfl))) (fun _ => ⟨_, rfl⟩) (callOk_builtin _) ((sound_append 0)) (by show 0 < 1; omega) (fun h => (nomatch h)) (sl_cons ((sound_bin U.ho _ ((sound_eComp rfl (compOk_of (ns := []) (fnames := ["needs", "k", "under"]) (own := (some "low")) (by kernel_rfl)) ((sound_call ((gl_range U _ (by kernel_rfl))) (callOk_type _) ((sound_range 0)) (by show 0 < 1; omega) (fun h => (nomatch h)) (sl_cons ((sound_cel 2 _ rfl)) (fun _ _ => rfl) sl_nil))) (fun _ _ => rfl) ((sound_tgCel 0 _ rfl (by kernel_rfl))) (fun _ _ => rfl) ((sound_ifs ((sound_tCmp _ ((sound_eComp rfl (compOk_of (ns := ["need"]) (fnames := ["low", "under"]) (own := none) (by kernel_rfl)) ((sound_eItem _ ((sound_cel 1 _ rfl)) ((sound_cel 2 _ rfl)) (fun _ _ => rfl))) (fun _ _ => rfl) ((sound_tgLoc 0 _ rfl)) (fun _ _ => rfl) ((sound_ifs ((sound_tCmp _ ((sound_cel 0 _ rfl)) ((sound_eItem _ ((sound_cel 1 _ rfl)) ((sound_loc 0 _ rfl)) (fun _ _ => rfl))))))) ((sound_loc 0 _ rfl)))) ((sound_list _ sl_nil)))))) ((sound_cel 0 _ rfl)))) ((sound_list _ (sl_cons ((sound_cel 2 _ rfl)) (fun _ _ => rfl) sl_nil))))) (fun _ _ => rfl) sl_nil))) (fun _ _ => rfl))) (sound_nil))))) ((sound_seq ((sound_sRet ((sound_cel 1 _ rfl)))) (sound_nil)))))))
theorem snd_law_chains (U : Al (XX w σ S t mg mb) ob) : ∀ n, SoundF (XX w σ S t mg mb) (n + 5) (.ref 231) (F_law_chains ob n)
  | 0 => by
    intro W hd hh O a e h
    cases e
  | n + 1 => by
    refine sound_fn (ps := ["under", "low", "high"]) (Df := ⟨_, [], ["under", "low", "high"], (n + 1 + 5), true⟩) U.g (fnOk_of U.g rfl rfl (by kernel_rfl) rfl rfl rfl rfl rfl rfl rfl (by kernel_rfl)) ?_ rfl (fun vs hv => match vs, hv with | [_, _, _], _ => rfl)
    unfold B_law_chains
    exact ((sound_seq ((sound_sIf ((sound_tCmp _ ((sound_cel 1 _ rfl)) ((sound_cel 2 _ rfl)))) ((sound_seq ((sound_sRet ((sound_int _ _ _)))) (sound_nil))) (sound_nil))) ((sound_seq ((sound_sRet ((sound_neg _ ((sound_call ((gl_sum U _ (by kernel_rfl))) (callOk_builtin _) ((sound_sum 0)) (by show 0 < (n + 1 + 5); omega) (fun _ => rfl) (sl_cons ((sound_eComp rfl (compOk_of (ns := ["step"]) (fnames := ["under", "high", "low"]) (own := none) (by kernel_rfl)) ((sound_eItem _ ((sound_cel 0 _ rfl)) ((sound_cel 2 _ rfl)) (fun _ _ => rfl))) (fun _ _ => rfl) ((sound_tgLoc 0 _ rfl)) (fun _ _ => rfl) ((sound_ifs ((sound_tAnd _ ((sound_tCmp _ ((sound_loc 0 _ rfl)) ((sound_cel 2 _ rfl)))) ((sound_tCmp _ ((sound_cel 2 _ rfl)) ((sound_eItem _ ((sound_cel 0 _ rfl)) ((sound_loc 0 _ rfl)) (fun _ _ => rfl))))))))) ((sound_call ((gl_law_chains U _ (by kernel_rfl))) (callOk_K U.g (by kernel_rfl)) (snd_law_chains U n) (by show n + 5 < (n + 1 + 5); omega) (fun _ => rfl) (sl_cons ((sound_cel 0 _ rfl)) (fun _ _ => rfl) (sl_cons ((sound_loc 0 _ rfl)) (fun _ _ => rfl) (sl_cons ((sound_cel 1 _ rfl)) (fun _ _ => rfl) sl_nil))))))) (fun _ _ => rfl) sl_nil))))))) (sound_nil)))))
set_option maxHeartbeats 4000000 in
theorem snd_law_back (U : Al (XX w σ S t mg mb) ob) : SoundF (XX w σ S t mg mb) 2 (.ref 238) (F_law_back ob) := by
  refine sound_fn (ps := ["row", "sums"]) (Df := ⟨_, ["row", "sums", "total", "place"], [], 2, true⟩) U.g (fnOk_of U.g rfl rfl (by kernel_rfl) rfl rfl rfl rfl rfl rfl rfl (by kernel_rfl)) ?_ rfl (fun vs hv => match vs, hv with | [_, _], _ => rfl)
  unfold B_law_back
  exact ((sound_seq ((sound_sAssign ((sound_int _ _ _)) ((sound_tgLoc 2 _ rfl)) (fun _ _ _ => rfl) (fun _ => rfl) (fun _ => rfl))) ((sound_seq ((sound_sFor ((sound_tgLoc 3 _ rfl)) (fun _ _ => rfl) ((sound_call ((gl_range U _ (by kernel_rfl))) (callOk_type _) ((sound_range 0)) (by show 0 < 2; omega) (fun h => (nomatch h)) (sl_cons ((sound_call ((gl_len U _ (by kernel_rfl))) (callOk_builtin _) ((sound_len 0)) (by show 0 < 2; omega) (fun h => (nomatch h)) (sl_cons ((sound_loc 0 _ rfl)) (fun _ _ => rfl) sl_nil))) (fun _ _ => rfl) sl_nil))) (fun _ _ => rfl) rfl ((sound_seq ((sound_sAssign ((sound_call ((gl_add U _ (by kernel_rfl))) (callOk_K U.g (by kernel_rfl)) ((snd_add U)) (by show 1 < 2; omega) (fun _ => rfl) (sl_cons ((sound_loc 2 _ rfl)) (fun _ _ => rfl) (sl_cons ((sound_call ((gl_mul U _ (by kernel_rfl))) (callOk_K U.g (by kernel_rfl)) ((snd_mul U)) (by show 1 < 2; omega) (fun _ => rfl) (sl_cons ((sound_eItem _ ((sound_loc 0 _ rfl)) ((sound_loc 3 _ rfl)) (fun _ _ => rfl))) (fun _ _ => rfl) (sl_cons ((sound_eItem _ ((sound_loc 1 _ rfl)) ((sound_loc 3 _ rfl)) (fun _ _ => rfl))) (fun _ _ => rfl) sl_nil)))) (fun _ _ => rfl) sl_nil)))) ((sound_tgLoc 2 _ rfl)) (fun _ _ _ => rfl) (fun _ => rfl) (fun _ => rfl))) (sound_nil))))) ((sound_seq ((sound_sRet ((sound_loc 2 _ rfl)))) (sound_nil)))))))
theorem body_law (U : Al (XX w σ S t mg mb) ob) : ∃ fd body names, FnOk (XX w σ S t mg mb) 243 fd body ⟨names, ["script", "needs", "below"], ["table", "under", "size", "values", "sums"], 16, true⟩ ["script"] [some 0, none, none] [none, none, none, none, none] ∧ SoundB (XX w σ S t mg mb) ⟨names, ["script", "needs", "below"], ["table", "under", "size", "values", "sums"], 16, true⟩ body (B_law ob) ∧ ∀ u, bindArgs fd ⟨[u], []⟩ = pure ((["script"] : List Str).zip [u]) := by
  refine ⟨_, _, _, (fnOk_of U.g rfl rfl (by kernel_rfl) rfl rfl rfl rfl rfl rfl rfl (by kernel_rfl)), ?_, fun u => rfl⟩
  unfold B_law
  exact ((sound_seq ((sound_sAssign ((sound_call ((gl_law_needs U _ (by kernel_rfl))) (callOk_K U.g (by kernel_rfl)) ((snd_law_needs U)) (by show 1 < 16; omega) (fun _ => rfl) (sl_cons ((sound_loc 0 _ rfl)) (fun _ _ => rfl) sl_nil))) ((sound_tgLoc 1 _ rfl)) (fun _ _ _ => rfl) (fun _ => rfl) (fun _ => rfl))) ((sound_seq ((sound_sUnpack ((sound_call ((gl_law_table U _ (by kernel_rfl))) (callOk_K U.g (by kernel_rfl)) ((snd_law_table U)) (by show 6 < 16; omega) (fun _ => rfl) (sl_cons ((sound_loc 1 _ rfl)) (fun _ _ => rfl) sl_nil))) ((sound_tgLoc 2 _ rfl)) ((sound_tgCel 0 _ rfl (by kernel_rfl))) rfl (fun _ _ => rfl) (fun _ => rfl) (fun _ => rfl))) ((sound_seq ((sound_sAssign ((sound_call ((gl_law_under U _ (by kernel_rfl))) (callOk_K U.g (by kernel_rfl)) ((snd_law_under U)) (by show 1 < 16; omega) (fun _ => rfl) (sl_cons ((sound_loc 1 _ rfl)) (fun _ _ => rfl) sl_nil))) ((sound_tgCel 1 _ rfl (by kernel_rfl))) (fun _ _ _ => rfl) (fun _ => rfl) (fun _ => rfl))) ((sound_seq ((sound_sAssign ((sound_call ((gl_len U _ (by kernel_rfl))) (callOk_builtin _) ((sound_len 0)) (by show 0 < 16; omega) (fun h => (nomatch h)) (sl_cons ((sound_loc 1 _ rfl)) (fun _ _ => rfl) sl_nil))) ((sound_tgCel 2 _ rfl (by kernel_rfl))) (fun _ _ _ => rfl) (fun _ => rfl) (fun _ => rfl))) ((sound_seq ((sound_sIf ((sound_tCmp _ ((sound_loc 2 _ rfl)) ((sound_eComp rfl (compOk_of (ns := ["row"]) (fnames := []) (own := none) (by kernel_rfl)) ((sound_cel 1 _ rfl)) (fun _ _ => rfl) ((sound_tgLoc 0 _ rfl)) (fun _ _ => rfl) (sound_noIfs) ((sound_call ((gl_sum U _ (by kernel_rfl))) (callOk_builtin _) ((sound_sum 0)) (by show 0 < 16; omega) (fun _ => rfl) (sl_cons ((sound_eComp rfl (compOk_of (ns := ["low"]) (fnames := []) (own := none) (by kernel_rfl)) ((sound_loc 0 _ rfl)) (fun _ _ => rfl) ((sound_tgLoc 0 _ rfl)) (fun _ _ => rfl) (sound_noIfs) ((sound_bin U.ho _ ((sound_int _ _ _)) ((sound_loc 0 _ rfl)))))) (fun _ _ => rfl) sl_nil))))))) ((sound_seq ((sound_sRet ((sound_bool _ _ _)))) (sound_nil))) (sound_nil))) ((sound_seq ((sound_sIf ((sound_tCmp _ ((sound_cel 0 _ rfl)) ((sound_eComp rfl (compOk_of (ns := []) (fnames := ["size", "under"]) (own := (some "low")) (by kernel_rfl)) ((sound_call ((gl_range U _ (by kernel_rfl))) (callOk_type _) ((sound_range 0)) (by show 0 < 16; omega) (fun h => (nomatch h)) (sl_cons ((sound_cel 2 _ rfl)) (fun _ _ => rfl) sl_nil))) (fun _ _ => rfl) ((sound_tgCel 0 _ rfl (by kernel_rfl))) (fun _ _ => rfl) (sound_noIfs) ((sound_eComp rfl (compOk_of (ns := ["high"]) (fnames := ["under", "low"]) (own := none) (by kernel_rfl)) ((sound_call ((gl_range U _ (by kernel_rfl))) (callOk_type _) ((sound_range 0)) (by show 0 < 16; omega) (fun h => (nomatch h)) (sl_cons ((sound_cel 1 _ rfl)) (fun _ _ => rfl) sl_nil))) (fun _ _ => rfl) ((sound_tgLoc 0 _ rfl)) (fun _ _ => rfl) (sound_noIfs) ((sound_call (gl_law_chains U _ (by kernel_rfl)) (callOk_K U.g (by kernel_rfl)) ((snd_law_chains U 10)) (by show 15 < 16; omega) (fun _ => rfl) (sl_cons ((sound_cel 0 _ rfl)) (fun _ _ => rfl) (sl_cons ((sound_cel 1 _ rfl)) (fun _ _ => rfl) (sl_cons ((sound_loc 0 _ rfl)) (fun _ _ => rfl) sl_nil))))))))))) ((sound_seq ((sound_sRet ((sound_bool _ _ _)))) (sound_nil))) (sound_nil))) ((sound_seq ((sound_sAssign ((sound_eVals U.z _ _ _ _ _ _ _ _ ((sound_loc 0 _ rfl)) (pure_cel 2 _ rfl) (cl_cons (constE_int _ _ _) (fun _ _ => rfl) (cl_cons (constE_neg _ _ _ _) (fun _ _ => rfl) (cl_cons (constE_int _ _ _) (fun _ _ => rfl) (cl_cons (constE_int _ _ _) (fun _ _ => rfl) (cl_cons (constE_int _ _ _) (fun _ _ => rfl) (cl_cons (constE_int _ _ _) (fun _ _ => rfl) cl_nil)))))))) ((sound_tgCel 3 _ rfl (by kernel_rfl))) (fun _ _ _ => rfl) (fun _ => rfl) (fun _ => rfl))) ((sound_seq ((sound_sAssign ((sound_eComp rfl (compOk_of (ns := ["row"]) (fnames := ["values"]) (own := none) (by kernel_rfl)) ((sound_cel 1 _ rfl)) (fun _ _ => rfl) ((sound_tgLoc 0 _ rfl)) (fun _ _ => rfl) (sound_noIfs) ((sound_call ((gl_sum U _ (by kernel_rfl))) (callOk_builtin _) ((sound_sum 0)) (by show 0 < 16; omega) (fun _ => rfl) (sl_cons ((sound_eComp rfl (compOk_of (ns := ["low"]) (fnames := ["values"]) (own := none) (by kernel_rfl)) ((sound_loc 0 _ rfl)) (fun _ _ => rfl) ((sound_tgLoc 0 _ rfl)) (fun _ _ => rfl) (sound_noIfs) ((sound_eItem _ ((sound_cel 0 _ rfl)) ((sound_loc 0 _ rfl)) (fun _ _ => rfl))))) (fun _ _ => rfl) sl_nil))))) ((sound_tgCel 4 _ rfl (by kernel_rfl))) (swaps_cell (by kernel_rfl)) (fun _ => rfl) (fun _ => rfl))) ((sound_seq ((sound_sRet ((sound_eCmp _ ((sound_eComp rfl (compOk_of (ns := []) (fnames := ["table", "sums"]) (own := (some "high")) (by kernel_rfl)) ((sound_call ((gl_range U _ (by kernel_rfl))) (callOk_type _) ((sound_range 0)) (by show 0 < 16; omega) (fun h => (nomatch h)) (sl_cons ((sound_cel 2 _ rfl)) (fun _ _ => rfl) sl_nil))) (fun _ _ => rfl) ((sound_tgCel 0 _ rfl (by kernel_rfl))) (fun _ _ => rfl) (sound_noIfs) ((sound_call ((gl_law_back U _ (by kernel_rfl))) (callOk_K U.g (by kernel_rfl)) ((snd_law_back U)) (by show 2 < 16; omega) (fun _ => rfl) (sl_cons ((sound_eComp rfl (compOk_of (ns := ["row"]) (fnames := ["high"]) (own := none) (by kernel_rfl)) ((sound_cel 1 _ rfl)) (fun _ _ => rfl) ((sound_tgLoc 0 _ rfl)) (fun _ _ => rfl) (sound_noIfs) ((sound_eItem _ ((sound_loc 0 _ rfl)) ((sound_cel 0 _ rfl)) (fun _ _ => rfl))))) (fun _ _ => rfl) (sl_cons ((sound_cel 2 _ rfl)) (fun _ _ => rfl) sl_nil)))))) ((sound_cel 3 _ rfl)))))) (sound_nil)))))))))))))))))))
end
end Mine

end
section
namespace Mine
open PySem PySem.W PyProof.Rows PySem.Calls

section
variable {X : Cx}
/-- the call from outside -/
theorem top_core {A : Around} {s : Shared} {f : Addr} {fd : FuncData} {body : List Stmt} {Df : Desc} {p0 : Str} {locs cels : List (Option Nat)} {mb : MS} {v : MV} {st' : St} {R : Result → Shared → Prop} (G : Gd X) (F : FnOk X f fd body Df [p0] locs cels) (hb : SoundB X Df body mb)
    (hs : s.heap = X.t) (hA : A.frames = some []) (hh : A.handled = none) (hr : A.depth + 1 + Df.d < recursionLimit) (hu : A.units + 3 + 10 * Df.d + 200 < cLine)
    (hbind : bindArgs fd ⟨[.ref X.cc.S], []⟩ = pure ([p0].zip [.ref X.cc.S])) (e : fnGo locs cels mb [.ref 0] ⟨1, .nil⟩ = some (v, st'))
    (h : ∀ ρ' v' s', (∃ h' tk, s' = { s with heap := h', toks := tk }) → (∀ b o, X.t.get? b = some o → s'.heap.get? b = some o) → (∃ L m, Fr X.t L s'.heap m) → AbsV X.σ ρ' v v' → R (.ok (.ret v')) s') : codeAny X.M A (.call (.ref f) ⟨[.ref X.cc.S], []⟩) R s := by
  obtain ⟨o, ho, hdat⟩ := F.at_
  have ho' : s.heap.get? f = some o := by rw [hs]; exact ho
  refine codeAny_call_function (by omega) ho' hdat F.co F.gen F.body_ (by rw [hs]; exact F.code) ?_
  rw [hbind]
  refine wpAny_pure ?_
  have hps : ([p0].zip [Value.ref X.cc.S]).map (·.1) = [p0] := rfl
  generalize hbs : [p0].zip [Value.ref X.cc.S] = binds at hps ⊢
  have ax : AbsVs X.σ [X.cc.S] [.ref 0] (binds.map (·.2)) := by subst hbs; exact ⟨⟨_, rfl, rfl⟩, trivial⟩
  have R1 : X.Rel [] [X.cc.S] ⟨1, .nil⟩ s.heap := ⟨fun b ob eb => by rw [hs]; exact eb, fun p hp => (nomatch hp), List.nodup_nil, rfl, fun i oi ei => (nomatch ei), G.nolimit, fun i j oi oj a ei => (nomatch ei), rfl⟩
  have hkind : ∀ n, ∀ x ∈ binds, fd.scope.names.lookup x.1 = some .local ∨ (fd.scope.names.lookup x.1 = some .cell ∧ ((cellsFrom n fd.scope.names []).lookup x.1).isSome = true) := by
    intro n x hx
    rw [F.names]
    have hxp : x.1 ∈ [p0] := hps ▸ List.mem_map.mpr ⟨x, hx, rfl⟩
    rcases F.psk x.1 hxp with q | q
    · exact .inl q
    · exact .inr ⟨q, cellsFrom_some _ _ _ (.inl q)⟩
  rw [F.clo]
  refine wpAny_newFunctionEnv_cells F.kind (hkind _) fun env' he s2 x => ?_
  subst he
  refine ⟨(G.nolimit.keeps R1.top).keeps x.toInCall.keep, codeAny_func ?_⟩
  unfold fnGo at e
  split at e
  · rename_i loc cel st2 el ec
    have fr1 := R1.fresh
    have R2 := R1.pushF (C := s.heap.objs.size) (h' := s2.heap) rfl x.toInCall.keep x.toInCall.ns
    have A1 : ∀ y ∈ Df.cs, ∃ c, (cellsFrom (s.heap.objs.size + 1) fd.scope.names []).lookup y = some c ∧ s2.heap.IsCell c (bindC (newEnv fd.scope s.heap.objs.size fd.globals (cellsFrom (s.heap.objs.size + 1) fd.scope.names []) (fd.qualname ++ ".<locals>.") (some f) fd.code none fd.builtins).kindOf binds (fun _ => none) y) ∧ X.t.get? c = none ∧
        (∀ p ∈ [(s.heap.objs.size, bindL (newEnv fd.scope s.heap.objs.size fd.globals (cellsFrom (s.heap.objs.size + 1) fd.scope.names []) (fd.qualname ++ ".<locals>.") (some f) fd.code none fd.builtins).kindOf binds (fun _ => none))], p.1 ≠ c) ∧ (∀ i o b, (⟨1, .nil⟩ : St).H.get i = some o → [X.cc.S][i]? = some b → b ≠ c) ∧ sysModules < c := by
      intro y hy
      obtain ⟨c, hc⟩ := Option.isSome_iff_exists.mp (cellsFrom_some fd.scope.names (s.heap.objs.size + 1) [] (.inl (F.names ▸ F.csk y hy)))
      have hab : s.heap.objs.size < c := x.above y c (mem_of_lookup hc)
      refine ⟨c, hc, x.cell y c hc, ?_, fun p hp => ?_, fun i o b hi hb => (nomatch hi), Nat.lt_trans fr1.2.2.2 hab⟩
      · cases q : X.t.get? c with
        | none => rfl
        | some o => exact absurd (Nat.lt_trans hab (Heap.lt_size (R1.top c o q))) (Nat.lt_irrefl _)
      · rcases List.mem_cons.mp hp with rfl | hp
        · exact Nat.ne_of_lt hab
        · exact (nomatch hp)
    have pst : ∀ {k : Nat} {y : Str} {v : MV}, [p0][k]? = some y → [MV.ref 0][k]? = some v → ∃ u, (y, u) ∈ binds ∧ AbsV X.σ [X.cc.S] v u := fun hk hv => ax.at hv (by rw [hps]; exact hk)
    have hnb : (binds.map (·.1)).Nodup := hps ▸ F.psn
    have A2 : ∀ (p k : Nat) (y : Str), cels[p]? = some (some k) → Df.cs[p]? = some y → ∀ v, [MV.ref 0][k]? = some v → ∃ u, bindC (newEnv fd.scope s.heap.objs.size fd.globals (cellsFrom (s.heap.objs.size + 1) fd.scope.names []) (fd.qualname ++ ".<locals>.") (some f) fd.code none fd.builtins).kindOf binds (fun _ => none) y = some u ∧ AbsV X.σ [X.cc.S] v u := by
      intro p k y hp hy v hv
      obtain ⟨y', h1, h2⟩ := agree_get F.cels_ hp
      rw [hy] at h1; cases h1
      obtain ⟨u, h3, h4⟩ := pst (h2 k rfl) hv
      refine ⟨u, bindC_get (fun q => ?_) hnb h3, h4⟩
      have q' : fd.scope.names.lookup y = some .local := q
      rw [F.names, F.csk y (mem_of_get hy)] at q'
      cases q'
    obtain ⟨ρ2, new, x2, R3, e3, h3⟩ := addCells_sound x.apart cels Df.cs [X.cc.S] ⟨1, .nil⟩ [] (agree_len F.cels_) F.csn R2 A1 A2 ec
    have e3' : cel = new := by simpa using e3
    subst e3'
    have O3 : Ok X Df (newEnv fd.scope s.heap.objs.size fd.globals (cellsFrom (s.heap.objs.size + 1) fd.scope.names []) (fd.qualname ++ ".<locals>.") (some f) fd.code none fd.builtins) [] s ρ2 ⟨loc, cel⟩ st2 s2 := by
      refine ⟨?_, ⟨_, R3, fun i u hu => ?_⟩, h3⟩
      · obtain ⟨h2, tk2, q2⟩ := x.toInCall.same
        exact ⟨h2, tk2, q2⟩
      · obtain ⟨k, h1, h2⟩ := fillLoc_get el hu
        obtain ⟨y, h4, h5⟩ := agree_get F.locs_ h1
        obtain ⟨u', h6, h7⟩ := pst (h5 k rfl) h2
        exact ⟨y, u', h4, bindL_get (show fd.scope.names.lookup y = some .local by rw [F.names]; exact (F.dok.loc y (mem_of_get h4)).1) hnb h6, h7.mono x2⟩
    have W3 : Wd X Df (A.deeper (newEnv fd.scope s.heap.objs.size fd.globals (cellsFrom (s.heap.objs.size + 1) fd.scope.names []) (fd.qualname ++ ".<locals>.") (some f) fd.code none fd.builtins)) (newEnv fd.scope s.heap.objs.size fd.globals (cellsFrom (s.heap.objs.size + 1) fd.scope.names []) (fd.qualname ++ ".<locals>.") (some f) fd.code none fd.builtins) [] := by
      refine ⟨F.dok, F.kind, F.names, F.glob, F.bltn, ?_, ?_, fun _ => hh, ?_⟩
      · show A.depth + 1 + Df.d < recursionLimit
        omega
      · show A.units + 3 + 10 * Df.d + 200 < cLine
        omega
      · refine ⟨_, _, Around.frames_deeper hA, rfl, fun e' he' => ?_⟩
        rcases List.mem_cons.mp he' with rfl | he'
        · exact ⟨by rw [show (newEnv fd.scope s.heap.objs.size fd.globals (cellsFrom (s.heap.objs.size + 1) fd.scope.names []) (fd.qualname ++ ".<locals>.") (some f) fd.code none fd.builtins).scope.kind = .function from F.kind]; decide, _, rfl, .inl rfl⟩
        · exact (nomatch he')
    have fin : ∀ {ρ3 fr3 st3 s3 v3'}, Ok X Df (newEnv fd.scope s.heap.objs.size fd.globals (cellsFrom (s.heap.objs.size + 1) fd.scope.names []) (fd.qualname ++ ".<locals>.") (some f) fd.code none fd.builtins) [] s ρ3 fr3 st3 s3 → AbsV X.σ ρ3 v v3' → R (.ok (.ret v3')) s3 := by
      intro ρ3 fr3 st3 s3 v3' O4 a4
      obtain ⟨sm, ⟨m4, R4, _⟩, _⟩ := O4
      exact h ρ3 v3' s3 sm R4.top ⟨_, m4, ⟨R4.ns, R4.top, by rw [← hs]; exact Nat.le_refl _⟩⟩ a4
    split at e
    · cases e
    · rename_i eb
      cases e
      refine hb W3 O3 eb fun ρ3 g s3 x3 O4 a3 => ?_
      obtain ⟨u, rfl, au⟩ := a3
      exact fin O4 au
    · rename_i eb
      cases e
      refine hb W3 O3 eb fun ρ3 g s3 x3 O4 a3 => ?_
      cases a3
      exact fin O4 rfl
    · cases e
  · cases e
end
end Mine

end
section
open PySem PySem.W PyProof.Rows PySem.Calls
namespace Mine
noncomputable def obOf (b0 b1 b2 : Bool) : Nat → Nat → Option Bool
  | 0, 0 => some b0
  | 1, 0 => some b1
  | 1, 1 => some b2
  | _, _ => none
noncomputable def lets : List (List Int) := [[1,0,0,0,0,0],[0,1,0,0,0,0],[0,0,1,0,0,0],[0,0,0,1,0,0],[0,0,0,0,1,0],[0,0,0,0,0,1]]
noncomputable def orOf (n : Nat) (b0 b1 b2 : Bool) : Or := ⟨obOf b0 b1 b2, (lets.take (n - 4)).map fun c => .int (.l 0 c), (lets.take n).map fun c => .int (.l 0 c)⟩
noncomputable def lawGo (ob : Or) : Option (MV × St) := fnGo [some 0, none, none] [none, none, none, none, none] (B_law ob) [.ref 0] ⟨1, .nil⟩
noncomputable def isT : Option (MV × St) → Bool
  | some (.bool true, _) => true
  | _ => false
theorem isT_some {r : Option (MV × St)} (h : isT r = true) : ∃ st, r = some (.bool true, st) := by
  unfold isT at h
  split at h
  · exact ⟨_, rfl⟩
  · cases h
theorem run4 : isT (lawGo (orOf 4 true true false)) = true := by decide +kernel
theorem run5t : isT (lawGo (orOf 5 true true true)) = true := by decide +kernel
theorem run5f : isT (lawGo (orOf 5 false true true)) = true := by decide +kernel
theorem run5 (b : Bool) : isT (lawGo (orOf 5 b true true)) = true := by cases b; exact run5f; exact run5t
theorem run6ttt : isT (lawGo (orOf 6 true true true)) = true := by decide +kernel
theorem run6ttf : isT (lawGo (orOf 6 true true false)) = true := by decide +kernel
theorem run6tft : isT (lawGo (orOf 6 true false true)) = true := by decide +kernel
theorem run6tff : isT (lawGo (orOf 6 true false false)) = true := by decide +kernel
theorem run6ftt : isT (lawGo (orOf 6 false true true)) = true := by decide +kernel
theorem run6ftf : isT (lawGo (orOf 6 false true false)) = true := by decide +kernel
theorem run6fft : isT (lawGo (orOf 6 false false true)) = true := by decide +kernel
theorem run6fff : isT (lawGo (orOf 6 false false false)) = true := by decide +kernel
theorem run6 (b0 b1 b2 : Bool) : isT (lawGo (orOf 6 b0 b1 b2)) = true := by
  cases b0 <;> cases b1 <;> cases b2
  · exact run6fff
  · exact run6fft
  · exact run6ftf
  · exact run6ftt
  · exact run6tff
  · exact run6tft
  · exact run6ttf
  · exact run6ttt
/-- the bit of a number -/
noncomputable def bitOf (x : Int) (b : Nat) : Bool := decide (Int.fmod (Int.fdiv x (2 ^ b)) 2 = 1)
theorem bitOf_is (x : Int) (b : Nat) : Int.fmod (Int.fdiv x (2 ^ b)) 2 = if bitOf x b then 1 else 0 := by
  unfold bitOf
  generalize Int.fdiv x (2 ^ b) = y
  have h := Int.fmod_nonneg_of_pos y (by decide : (0 : Int) < 2)
  have h2 := Int.fmod_lt_of_pos y (by decide : (0 : Int) < 2)
  by_cases q : Int.fmod y 2 = 1
  · simp [q]
  · simp [q]; omega
theorem orOk_of {σ : List Int} {b0 b1 b2 : Bool} (h0 : b0 = bitOf (σ.getD 0 0) 0) (h1 : b1 = bitOf (σ.getD 1 0) 0) (h2 : b2 = bitOf (σ.getD 1 0) 1) : OrOk σ (obOf b0 b1 b2) := by
  intro j b v e
  unfold obOf at e
  split at e
  · cases e; rw [h0]; exact bitOf_is _ _
  · cases e; rw [h1]; exact bitOf_is _ _
  · cases e; rw [h2]; exact bitOf_is _ _
  · cases e
theorem unit_abs {σ : List Int} {ρ : List Addr} {cs : List Int} {n : Int} {t : Tok} (h : lin cs σ = n) : AbsV σ ρ (.int (.l 0 cs)) (.int n t) := ⟨t, by rw [← h]; show Value.int (lin cs σ) t = Value.int (0 + lin cs σ) t; rw [Int.zero_add]⟩
theorem ints_four {vs : List Value} {a b c d : Int} (h : IntsAre vs [a, b, c, d]) : ∃ t0 t1 t2 t3, vs = [.int a t0, .int b t1, .int c t2, .int d t3] := by
  obtain ⟨t0, v0, e0, h0⟩ := h.cons_inv
  obtain ⟨t1, v1, e1, h1⟩ := h0.cons_inv
  obtain ⟨t2, v2, e2, h2⟩ := h1.cons_inv
  obtain ⟨t3, v3, e3, h3⟩ := h2.cons_inv
  exact ⟨t0, t1, t2, t3, by rw [e0, e1, e2, e3, h3.nil_inv]⟩
theorem consts_are {σ : List Int} {ρ : List Addr} {vs : List Value} (h : AbsVs σ ρ consts6 vs) : IntsAre vs [7, -3, 2, 5, 11, 1] := by
  match vs, h with
  | [_, _, _, _, _, _], ⟨⟨t0, e0⟩, ⟨t1, e1⟩, ⟨t2, e2⟩, ⟨t3, e3⟩, ⟨t4, e4⟩, ⟨t5, e5⟩, _⟩ =>
    subst e0 e1 e2 e3 e4 e5
    exact .cons _ _ (.cons _ _ (.cons _ _ (.cons _ _ (.cons _ _ (.cons _ _ .nil)))))
theorem four {l : List Int} (h : l.length = 4) : ∃ a b c d, l = [a, b, c, d] := by
  match l, h with
  | [a, b, c, d], _ => exact ⟨a, b, c, d, rfl⟩
section
variable {w : World} {l : Addr} {t : Heap} {mg mb : NsM}
/-- for every script there are letters and an oracle with a run that gives True -/
theorem letters {vs : List Value} {ns : List Int} (hL : t.IsList l vs.toArray) (hI : IntsAre vs ns) (hlen : ns.length ≤ 63) : ∃ σ ob, OrOk σ ob.bit ∧ ScrOk (XX w σ l t mg mb) ob ∧ isT (lawGo ob) = true := by
  have hsz : vs.toArray.size ≤ 63 := by rw [List.size_toArray, hI.length]; exact hlen
  match ns, hI with
  | [], hI =>
    refine ⟨[7, -3, 2, 5], orOf 4 true true false, orOk_of (by decide) (by decide) (by decide), ⟨vs.toArray, hL, hsz, ?_, ?_⟩, ?_⟩
    · intro ρ; rw [hI.nil_inv]; trivial
    · intro ρ cs hc
      rw [hI.nil_inv]
      have := (consts_are hc).take 4
      obtain ⟨t0, t1, t2, t3, e⟩ := ints_four this
      show AbsVs [7, -3, 2, 5] ρ [.int (.l 0 [1,0,0,0,0,0]), .int (.l 0 [0,1,0,0,0,0]), .int (.l 0 [0,0,1,0,0,0]), .int (.l 0 [0,0,0,1,0,0])] (cs.take 4)
      rw [e]
      exact ⟨unit_abs (by simp [lin]), unit_abs (by simp [lin]), unit_abs (by simp [lin]), unit_abs (by simp [lin]), trivial⟩
    · exact run4
  | [a], hI =>
    refine ⟨[a, 7, -3, 2, 5], orOf 5 (bitOf a 0) true true, orOk_of rfl (show true = bitOf 7 0 by decide) (show true = bitOf 7 1 by decide), ⟨vs.toArray, hL, hsz, ?_, ?_⟩, ?_⟩
    · intro ρ
      obtain ⟨t0, v0, e0, h0⟩ := hI.cons_inv
      have e1 := h0.nil_inv
      subst e1; subst e0
      exact ⟨unit_abs (by simp [lin]), trivial⟩
    · intro ρ cs hc
      obtain ⟨t0, v0, e0, h0⟩ := hI.cons_inv
      have e1 := h0.nil_inv
      subst e1; subst e0
      obtain ⟨t1, t2, t3, t4, e⟩ := ints_four ((consts_are hc).take 4)
      show AbsVs [a, 7, -3, 2, 5] ρ [.int (.l 0 [1,0,0,0,0,0]), .int (.l 0 [0,1,0,0,0,0]), .int (.l 0 [0,0,1,0,0,0]), .int (.l 0 [0,0,0,1,0,0]), .int (.l 0 [0,0,0,0,1,0])] (.int a t0 :: cs.take 4)
      rw [e]
      exact ⟨unit_abs (by simp [lin]), unit_abs (by simp [lin]), unit_abs (by simp [lin]), unit_abs (by simp [lin]), unit_abs (by simp [lin]), trivial⟩
    · exact run5 _
  | a :: b :: r, hI =>
    obtain ⟨x2, x3, x4, x5, ex⟩ := four (l := (r.take 4 ++ [7, -3, 2, 5, 11, 1]).take 4) (by simp)
    refine ⟨[a, b, x2, x3, x4, x5], orOf 6 (bitOf a 0) (bitOf b 0) (bitOf b 1), orOk_of rfl rfl rfl, ⟨vs.toArray, hL, hsz, ?_, ?_⟩, ?_⟩
    · intro ρ
      obtain ⟨t0, v0, e0, h0⟩ := hI.cons_inv
      obtain ⟨t1, v1, e1, h1⟩ := h0.cons_inv
      subst e1; subst e0
      exact ⟨unit_abs (by simp [lin]), unit_abs (by simp [lin]), trivial⟩
    · intro ρ cs hc
      obtain ⟨t0, v0, e0, h0⟩ := hI.cons_inv
      obtain ⟨t1, v1, e1, h1⟩ := h0.cons_inv
      subst e1; subst e0
      have q := ((h1.take 4).append (consts_are hc)).take 4
      rw [ex] at q
      obtain ⟨t2, t3, t4, t5, e⟩ := ints_four q
      show AbsVs [a, b, x2, x3, x4, x5] ρ [.int (.l 0 [1,0,0,0,0,0]), .int (.l 0 [0,1,0,0,0,0]), .int (.l 0 [0,0,1,0,0,0]), .int (.l 0 [0,0,0,1,0,0]), .int (.l 0 [0,0,0,0,1,0]), .int (.l 0 [0,0,0,0,0,1])] (.int a t0 :: .int b t1 :: (v1.take 4 ++ cs).take 4)
      rw [e]
      exact ⟨unit_abs (by simp [lin]), unit_abs (by simp [lin]), unit_abs (by simp [lin]), unit_abs (by simp [lin]), unit_abs (by simp [lin]), unit_abs (by simp [lin]), trivial⟩
    · exact run6 _ _ _
theorem main_call {s₁ : Shared} {vs : List Value} {ns : List Int} {R : Result → Shared → Prop} (KX : (KK w.params).In s₁.heap) (hg : s₁.heap.Ns mainGlobals mg) (hb : s₁.heap.Ns builtinsNs mb) (hn : s₁.heap.NoLimit) (hbs : ∀ x : Str, x ≠ "__name__" → mb x = bootBuiltins x)
    (hL : s₁.heap.IsList l vs.toArray) (hI : IntsAre vs ns) (hlen : ns.length ≤ 63) (h : ∀ s', (∃ h' tk, s' = { s₁ with heap := h', toks := tk }) → (∃ L m, Fr s₁.heap L s'.heap m) → R (.ok (.ret (.bool true))) s') :
    codeAny (model PySem.Challenge.rw_mq0330_01.row.prog w) callerA (.call (.ref 243) ⟨[.ref l], []⟩) R s₁ := by
  obtain ⟨σ, ob, HO, Z, hr⟩ := letters (w := w) (mg := mg) (mb := mb) hL hI hlen
  obtain ⟨st', e⟩ := isT_some hr
  have U : Al (XX w σ l s₁.heap mg mb) ob := ⟨⟨KX, hg, hb, hn, hbs⟩, HO, Z⟩
  obtain ⟨fd, body, names, F, B, hbind⟩ := body_law U
  refine top_core (X := XX w σ l s₁.heap mg mb) U.g F B rfl rfl rfl (show 1 + claimMargin + 1 + 16 < recursionLimit by decide) (show 4 + 3 + 10 * 16 + 200 < cLine by decide) (hbind _) e fun ρ' v' s' hs _ hF av => ?_
  cases av
  exact h s' hs hF
end
end Mine

end
open PySem PySem.W PyProof.Rows
set_option maxRecDepth 100000 in
set_option maxHeartbeats 8000000 in
theorem PySem.Challenge.cw_mq0330_01_holds : PySem.Challenge.rw_mq0330_01.Holds := by
  refine Mine.law_all fun said => holds_open (r := PySem.Challenge.rw_mq0330_01.row) (q := view PySem.Challenge.pw_mq0330_01 Mine.keepI) (loose := [Str.ofString "_NodeInfo"]) (Xt := fun s => xlAt (view PySem.Challenge.pw_mq0330_01 Mine.keepI) [] s && recOk (RowW.records PySem.Challenge.rw_mq0330_01.row.toRowW) s)
    (XP := XL (view PySem.Challenge.pw_mq0330_01 Mine.keepI) []) (Yf := Hook.obs Mine.hk) (Ya := Hook.val Mine.hk) (YP := Hook.says Mine.hk) (N := 3200) Mine.top_ok (Hook.of Mine.hk) (Hook.keeps Mine.hk)
    (fun s e => xl_of s (Bool.and_eq_true_iff.mp e).1) XL.keeps Mine.hdef_ok Mine.hp_ok Mine.hk_ok (fun s e => recFacts_of (Bool.and_eq_true_iff.mp e).2) Mine.hwr_ok said Mine.ok_ok Mine.bare_ok Mine.prom_ok ?hc
  case hc =>
    clear said
    w_on
    w_strict (
      intro w s₀ s₁ mg mb G Y fa o pm cd doc dV kV ho hd hcd hD hmg hg args vals as hpre hlay hrd hwl hlo
      have KX := kIn_of Y
      have hT := G.T
      have hfa : fa = 243 := by
        have e : mg (PySem.Str.ofString "law") = some (.ref 243) := mg_of KX hT.g (by kernel_rfl)
        have hmg' : mg (PySem.Str.ofString "law") = some (.ref fa) := hmg
        rw [e] at hmg'
        injection hmg' with q
        injection q with q
        exact q.symm
      subst hfa
      clear hD hcd hd ho hmg
      wrow_args hpre hlay hrd hwl hlo
      refine enter_call ?_
      refine codeAny_mono ?_ (fun _ _ g => GoodW.toG g)
      refine Mine.main_call KX hT.g hT.b hT.nolimit hT.builtins (by assumption) (by assumption) (by omega) fun s' hs hF => ?_
      obtain ⟨h', tk, rfl⟩ := hs
      obtain ⟨L, m, F⟩ := hF
      wrow_close)
#print axioms PySem.Challenge.cw_mq0330_01_holds
