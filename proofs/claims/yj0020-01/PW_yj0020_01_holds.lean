import PyProof.Rows.All
import Wide.All
import OpenK.AllK
import Wide.FinOn
import KE.KSlice
import KE.KRevSl
import KE.KEqDat
import KE.KIntText
import KE.KSortKey
import KE.KNestM
import KE.KSuper
import PyProof.GenCompT
import PyProof.SumAny
import PySem.Challenge.RW_yj0020_01
set_option Elab.async false
set_option maxRecDepth 1000000
set_option maxHeartbeats 8000000
-- own data and combinators, no model in sight
namespace Mine
noncomputable section
abbrev Tx := List Nat
inductive V where
  | unb | none | bool (b : Bool) | int (i : Int) | str (s : Tx) | ref (k : Nat) | adr (a : Nat)
inductive Ob where
  | list (vs : List V) | tup (vs : List V) | dict (ep : Nat) (es : List (Tx × V)) | inst (first : Int) | acc (dk : Nat) (vs : List V) | tab | any
inductive Tr where
  | nil | node (o : Ob) (l r : Tr)

-- heap tree: index 0 is the root, odd 2q+1 goes left with q, even 2q+2 goes right with q
def Tr.get (t : Tr) : Nat → Option Ob :=
  @Tr.rec (fun _ => Nat → Option Ob) (fun _ => Option.none)
    (fun o _ _ gl gr i => @Nat.rec (fun _ => Option Ob) (some o) (fun j _ => @Bool.rec (fun _ => Option Ob) (gr (j / 2)) (gl (j / 2)) (Nat.beq (j % 2) 0)) i) t
def Tr.put (o' : Ob) (t : Tr) : Nat → Tr :=
  @Tr.rec (fun _ => Nat → Tr) (fun i => @Nat.rec (fun _ => Tr) (.node o' .nil .nil) (fun _ _ => .nil) i)
    (fun o l r pl pr i => @Nat.rec (fun _ => Tr) (.node o' l r) (fun j _ => @Bool.rec (fun _ => Tr) (.node o l (pr (j / 2))) (.node o (pl (j / 2)) r) (Nat.beq (j % 2) 0)) i) t

structure Hp where
  t : Tr
  n : Nat

def nthV (l : List V) : Nat → V :=
  @List.rec V (fun _ => Nat → V) (fun _ => .unb) (fun x _ ih i => @Nat.rec (fun _ => V) x (fun j _ => ih j) i) l
def nthO {α : Type} (l : List α) : Nat → Option α :=
  @List.rec α (fun _ => Nat → Option α) (fun _ => .none) (fun x _ ih i => @Nat.rec (fun _ => Option α) (some x) (fun j _ => ih j) i) l
def setV (v : V) (l : List V) : Nat → List V :=
  @List.rec V (fun _ => Nat → List V) (fun _ => []) (fun x xs ih i => @Nat.rec (fun _ => List V) (v :: xs) (fun j _ => x :: ih j) i) l
def lenL {α : Type} (l : List α) : Nat := @List.rec α (fun _ => Nat) 0 (fun _ _ n => Nat.succ n) l
def appL {α : Type} (l m : List α) : List α := @List.rec α (fun _ => List α) m (fun x _ r => x :: r) l
def takeL {α : Type} (l : List α) : Nat → List α :=
  @List.rec α (fun _ => Nat → List α) (fun _ => []) (fun x _ ih i => @Nat.rec (fun _ => List α) [] (fun j _ => x :: ih j) i) l
def dropL {α : Type} (l : List α) : Nat → List α :=
  @List.rec α (fun _ => Nat → List α) (fun _ => []) (fun x xs ih i => @Nat.rec (fun _ => List α) (x :: xs) (fun j _ => ih j) i) l
def revL {α : Type} (l : List α) : List α → List α := @List.rec α (fun _ => List α → List α) (fun a => a) (fun x _ ih a => ih (x :: a)) l

def eqT (a : Tx) : Tx → Bool :=
  @List.rec Nat (fun _ => Tx → Bool) (fun b => @List.rec Nat (fun _ => Bool) true (fun _ _ _ => false) b)
    (fun x _ ih b => @List.rec Nat (fun _ => Bool) false (fun y ys _ => @Bool.rec (fun _ => Bool) false (ih ys) (Nat.beq x y)) b) a
def ltT (a : Tx) : Tx → Bool :=
  @List.rec Nat (fun _ => Tx → Bool) (fun b => @List.rec Nat (fun _ => Bool) false (fun _ _ _ => true) b)
    (fun x _ ih b => @List.rec Nat (fun _ => Bool) false (fun y ys _ => @Bool.rec (fun _ => Bool) (@Bool.rec (fun _ => Bool) false (ih ys) (Nat.beq x y)) true (Nat.blt x y)) b) a
def ltZ (a b : Int) : Bool := match a, b with
  | .ofNat m, .ofNat n => Nat.blt m n
  | .ofNat _, .negSucc _ => false
  | .negSucc _, .ofNat _ => true
  | .negSucc m, .negSucc n => Nat.blt n m
def leZ (a b : Int) : Bool := match a, b with
  | .ofNat m, .ofNat n => Nat.ble m n
  | .ofNat _, .negSucc _ => false
  | .negSucc _, .ofNat _ => true
  | .negSucc m, .negSucc n => Nat.ble n m
def eqZ (a b : Int) : Bool := match a, b with
  | .ofNat m, .ofNat n => Nat.beq m n
  | .ofNat _, .negSucc _ => false
  | .negSucc _, .ofNat _ => false
  | .negSucc m, .negSucc n => Nat.beq m n

abbrev K := V → Hp → Bool
abbrev C := List V → Hp → K → Bool
abbrev B := List V → Hp → (Bool → Hp → Bool) → Bool
abbrev S := List V → Hp → (List V → Hp → Bool) → K → (List V → Hp → Bool) → Bool
abbrev O1 := V → Hp → K → Bool
abbrev O2 := V → V → Hp → K → Bool

-- views
def asInt (v : V) (k : Int → Bool) : Bool := match v with | .int i => k i | _ => false
def asStr (v : V) (k : Tx → Bool) : Bool := match v with | .str i => k i | _ => false
def asRef (v : V) (k : Nat → Bool) : Bool := match v with | .ref i => k i | _ => false
def asBool (v : V) (k : Bool → Bool) : Bool := match v with | .bool i => k i | _ => false
def asList (v : V) (h : Hp) (k : List V → Bool) : Bool := asRef v fun a => match h.t.get a with | some (.list vs) => k vs | _ => false
def asTup (v : V) (h : Hp) (k : List V → Bool) : Bool := asRef v fun a => match h.t.get a with | some (.tup vs) => k vs | _ => false
def asDictE (v : V) (h : Hp) (k : Nat → List (Tx × V) → Bool) : Bool := asRef v fun a => match h.t.get a with | some (.dict ep vs) => k ep vs | _ => false
def asDict (v : V) (h : Hp) (k : List (Tx × V) → Bool) : Bool := asDictE v h fun _ vs => k vs
def asAcc (v : V) (h : Hp) (k : Nat → List V → Bool) : Bool := asRef v fun a => match h.t.get a with | some (.acc f vs) => k f vs | _ => false
def asNat (v : V) (k : Nat → Bool) : Bool := match v with | .int (.ofNat n) => k n | _ => false
def newO (o : Ob) (h : Hp) (k : K) : Bool := k (.ref h.n) ⟨h.t.put o h.n, h.n.succ⟩
def setO (v : V) (o : Ob) (h : Hp) (k : Hp → Bool) : Bool := asRef v fun a => k ⟨h.t.put o a, h.n⟩

-- expressions
def chk (b r : Bool) : Bool := @Bool.rec (fun _ => Bool) false r b
def cVal (v : V) : C := fun _ h k => k v h
def cVar (i : Nat) : C := fun l h k => match nthV l i with | .unb => false | v => k v h
def cOp1 (o : O1) (F : C) : C := fun l h k => F l h fun a h => o a h k
def cOp2 (o : O2) (F G : C) : C := fun l h k => F l h fun a h => G l h fun b h => o a b h k
def cOp3 (o : V → V → V → Hp → K → Bool) (F G J : C) : C := fun l h k => F l h fun a h => G l h fun b h => J l h fun c h => o a b c h k
def cIf (t : B) (F G : C) : C := fun l h k => t l h fun b h => @Bool.rec (fun _ => Bool) (G l h k) (F l h k) b
def evs (fs : List C) : List V → Hp → (List V → Hp → Bool) → Bool :=
  @List.rec C (fun _ => List V → Hp → (List V → Hp → Bool) → Bool) (fun _ h k => k [] h) (fun f _ ih l h k => f l h fun v h => ih l h fun vs h => k (v :: vs) h) fs
def cList (fs : List C) : C := fun l h k => evs fs l h fun vs h => chk (Nat.ble (lenL vs) 4096) (newO (.list vs) h k)
def cTup (fs : List C) : C := fun l h k => evs fs l h fun vs h => chk (Nat.ble (lenL vs) 4096) (newO (.tup vs) h k)
def cDict : C := fun _ h k => newO (.dict 0 []) h k

-- ops
def oAddI : O2 := fun a b h k => asInt a fun x => asInt b fun y => k (.int (x + y)) h
def oSubI : O2 := fun a b h k => asInt a fun x => asInt b fun y => k (.int (x - y)) h
def oMulI : O2 := fun a b h k => asNat a fun x => asInt b fun y => chk (Nat.blt x 4294967296) (k (.int (Int.ofNat x * y)) h)
def oDivI : O2 := fun a b h k => asInt a fun x => asNat b fun y => chk (Nat.blt 0 y) (chk (Nat.blt y 1073741824) (k (.int (x.fdiv (Int.ofNat y))) h))
def oModI : O2 := fun a b h k => asInt a fun x => asNat b fun y => chk (Nat.blt 0 y) (k (.int (x.fmod (Int.ofNat y))) h)
def oPowI : O2 := fun a b h k => asNat a fun x => asNat b fun y => chk (Nat.blt x 4294967296) (chk (Nat.blt y 64) (k (.int (Int.ofNat (x ^ y))) h))
def oAddS : O2 := fun a b h k => asStr a fun x => asStr b fun y => chk (Nat.ble (lenL x + lenL y) 4096) (k (.str (appL x y)) h)
def oAddL : O2 := fun a b h k => asList a h fun x => asList b h fun y => chk (Nat.ble (lenL x + lenL y) 4096) (newO (.list (appL x y)) h k)
def oLtI : O2 := fun a b h k => asInt a fun x => asInt b fun y => k (.bool (ltZ x y)) h
def oLeI : O2 := fun a b h k => asInt a fun x => asInt b fun y => k (.bool (leZ x y)) h
def oGtI : O2 := fun a b h k => asInt a fun x => asInt b fun y => k (.bool (ltZ y x)) h
def oGeI : O2 := fun a b h k => asInt a fun x => asInt b fun y => k (.bool (leZ y x)) h
def oEqI : O2 := fun a b h k => asInt a fun x => asInt b fun y => k (.bool (eqZ x y)) h
def oNeI : O2 := fun a b h k => asInt a fun x => asInt b fun y => k (.bool (!eqZ x y)) h
def oLtS : O2 := fun a b h k => asStr a fun x => asStr b fun y => k (.bool (ltT x y)) h
def oGtS : O2 := fun a b h k => asStr a fun x => asStr b fun y => k (.bool (ltT y x)) h
def oEqS : O2 := fun a b h k => asStr a fun x => asStr b fun y => k (.bool (eqT x y)) h
def oNeS : O2 := fun a b h k => asStr a fun x => asStr b fun y => k (.bool (!eqT x y)) h
-- bool - bool
def oSubB : O2 := fun a b h k => asBool a fun x => asBool b fun y => k (.int (@Bool.rec (fun _ => Int) (@Bool.rec (fun _ => Int) 0 (-1) y) (@Bool.rec (fun _ => Int) 1 0 y) x)) h
-- is not, on bools and None
def isV (a b : V) (k : Bool → Bool) : Bool := match a, b with
  | .bool x, .bool y => k (x == y)
  | .none, .none => k true
  | .bool _, .none => k false
  | .str _, .none => k false
  | _, _ => false
def oIsNot : O2 := fun a b h k => isV a b fun t => k (.bool (!t)) h
def oIs : O2 := fun a b h k => isV a b fun t => k (.bool t) h

-- values read out whole: ints, strs, lists and tuples of such
inductive D where
  | int (i : Int) | str (s : Tx) | nil | cons (a b : D) | list (d : D) | tup (d : D)
def eqDD (a : D) : D → Bool :=
  @D.rec (fun _ => D → Bool)
    (fun i b => @D.casesOn (fun _ => Bool) b (fun j => eqZ i j) (fun _ => false) false (fun _ _ => false) (fun _ => false) (fun _ => false))
    (fun s b => @D.casesOn (fun _ => Bool) b (fun _ => false) (fun t => eqT s t) false (fun _ _ => false) (fun _ => false) (fun _ => false))
    (fun b => @D.casesOn (fun _ => Bool) b (fun _ => false) (fun _ => false) true (fun _ _ => false) (fun _ => false) (fun _ => false))
    (fun _ _ ia ib b => @D.casesOn (fun _ => Bool) b (fun _ => false) (fun _ => false) false (fun c d => @Bool.rec (fun _ => Bool) false (ib d) (ia c)) (fun _ => false) (fun _ => false))
    (fun _ ia b => @D.casesOn (fun _ => Bool) b (fun _ => false) (fun _ => false) false (fun _ _ => false) (fun d => ia d) (fun _ => false))
    (fun _ ia b => @D.casesOn (fun _ => Bool) b (fun _ => false) (fun _ => false) false (fun _ _ => false) (fun _ => false) (fun d => ia d)) a
def okT (s : Tx) : Bool := @List.rec Nat (fun _ => Bool) true (fun x _ ih => @Bool.rec (fun _ => Bool) false ih (Nat.blt x 1114112)) s
def rds (f : V → (D → Bool) → Bool) (vs : List V) : (D → Bool) → Bool :=
  @List.rec V (fun _ => (D → Bool) → Bool) (fun k => k .nil) (fun x _ ih k => f x fun d => ih fun e => k (.cons d e)) vs
def rd (h : Hp) (n : Nat) : V → (D → Bool) → Bool :=
  @Nat.rec (fun _ => V → (D → Bool) → Bool) (fun _ _ => false)
    (fun _ ih v k => match v with
      | .int i => k (.int i)
      | .str s => chk (okT s) (k (.str s))
      | .ref a => match h.t.get a with
        | some (.list vs) => rds ih vs fun d => k (.list d)
        | some (.tup vs) => rds ih vs fun d => k (.tup d)
        | _ => false
      | _ => false) n
def oEqD : O2 := fun a b h k => rd h 5 a fun x => rd h 5 b fun y => k (.bool (eqDD x y)) h
def oNeD : O2 := fun a b h k => rd h 5 a fun x => rd h 5 b fun y => k (.bool (!eqDD x y)) h
def memD (a d : D) : Bool :=
  @D.rec (fun _ => Bool) (fun _ => false) (fun _ => false) false (fun x _ _ ih => @Bool.rec (fun _ => Bool) ih true (eqDD x a)) (fun _ _ => false) (fun _ _ => false) d
def oInL : O2 := fun a b h k => rd h 4 a fun x => asList b h fun vs => rds (rd h 4) vs fun d => k (.bool (memD x d)) h
def oNotInL : O2 := fun a b h k => rd h 4 a fun x => asList b h fun vs => rds (rd h 4) vs fun d => k (.bool (!memD x d)) h
def findT (x : Tx) (es : List (Tx × V)) : Option V :=
  @List.rec (Tx × V) (fun _ => Option V) .none (fun e _ ih => @Bool.rec (fun _ => Option V) ih (some e.2) (eqT e.1 x)) es
def oInD : O2 := fun a b h k => asStr a fun x => asDict b h fun es => k (.bool (findT x es).isSome) h
def oNotInD : O2 := fun a b h k => asStr a fun x => asDict b h fun es => k (.bool (!(findT x es).isSome)) h
-- a dict of the module's: what is known of it, and of what it lacks
def findG (x : Tx) (es : List (Tx × Option Int)) : Option (Option Int) :=
  @List.rec (Tx × Option Int) (fun _ => Option (Option Int)) .none (fun e _ ih => @Bool.rec (fun _ => Option (Option Int)) ih (some e.2) (eqT e.1 x)) es
def oInG (es : List (Tx × Option Int)) : O1 := fun a h k => asStr a fun x => match findG x es with | some r => k (.bool r.isSome) h | .none => false
def oGetG (es : List (Tx × Option Int)) : O1 := fun a h k => asStr a fun x => match findG x es with | some (some i) => k (.int i) h | _ => false

def oItemL : O2 := fun a b h k => asList a h fun vs => asNat b fun i => chk (Nat.blt i 4096) <| match nthO vs i with | some v => k v h | .none => false
def oItemT : O2 := fun a b h k => asTup a h fun vs => asNat b fun i => chk (Nat.blt i 4096) <| match nthO vs i with | some v => k v h | .none => false
def oItemS : O2 := fun a b h k => asStr a fun vs => asNat b fun i => chk (Nat.blt i 4096) <| match nthO vs i with | some v => k (.str [v]) h | .none => false
def oItemD : O2 := fun a b h k => asDict a h fun es => asStr b fun x => match findT x es with | some v => k v h | .none => false
def oCutS : V → V → V → Hp → K → Bool := fun a i j h k => asStr a fun x => asNat i fun i => asNat j fun j => chk (Nat.ble i j) <| chk (Nat.ble (lenL x) 4096) <| k (.str (takeL (dropL x i) (j - i))) h
def oToL : O2 := fun a j h k => asList a h fun x => asNat j fun j => chk (Nat.ble (lenL x) 4096) <| newO (.list (takeL x j)) h k
def oFromL : O2 := fun a i h k => asList a h fun x => asNat i fun i => chk (Nat.ble (lenL x) 4096) <| newO (.list (dropL x i)) h k
def oRevL : O1 := fun a h k => asList a h fun x => chk (Nat.ble (lenL x) 4096) <| newO (.list (revL x [])) h k

def oLenL : O1 := fun a h k => asList a h fun x => chk (Nat.blt (lenL x) 4096) (k (.int (Int.ofNat (lenL x))) h)
def oLenS : O1 := fun a h k => asStr a fun x => chk (Nat.blt (lenL x) 4096) (k (.int (Int.ofNat (lenL x))) h)
def oLenD : O1 := fun a h k => asDict a h fun x => chk (Nat.blt (lenL x) 4096) (k (.int (Int.ofNat (lenL x))) h)
def sumI (vs : List V) : (Nat → Bool) → Bool :=
  @List.rec V (fun _ => (Nat → Bool) → Bool) (fun k => k 0) (fun x _ ih k => asNat x fun i => chk (Nat.blt i 1048576) (ih fun j => k (i + j))) vs
def oSum : O1 := fun a h k => asList a h fun vs => chk (Nat.ble (lenL vs) 4096) (sumI vs fun i => k (.int (Int.ofNat i)) h)
-- min and max of a text of two signs
def oMinS : O1 := fun a h k => asStr a fun x => match x with | [c, d] => chk (Nat.blt c 128) (chk (Nat.blt d 128) (k (.str [@Bool.rec (fun _ => Nat) c d (Nat.blt d c)]) h)) | _ => false
def oMaxS : O1 := fun a h k => asStr a fun x => match x with | [c, d] => chk (Nat.blt c 128) (chk (Nat.blt d 128) (k (.str [@Bool.rec (fun _ => Nat) c d (Nat.blt c d)]) h)) | _ => false
-- int(text): four figures below four
def fig (x : Nat) (k : Nat → Bool) : Bool := chk (Nat.ble 48 x) (chk (Nat.blt x 52) (k (x - 48)))
def oInt : O1 := fun a h k => asStr a fun x => match x with | [a, b, c, d] => fig a fun a => fig b fun b => fig c fun c => fig d fun d => k (.int (Int.ofNat (1000 * a + 100 * b + 10 * c + d))) h | _ => false
-- isinstance(x, bool)
def oIsBool : O1 := fun a h k => match a with | .bool _ => k (.bool true) h | .int _ => k (.bool false) h | _ => false
-- sorted(list of strs, key=identity): the sorted list of strs
def insT (x : Tx) (l : List Tx) : List Tx :=
  @List.rec Tx (fun _ => List Tx) [x] (fun y ys ih => @Bool.rec (fun _ => List Tx) (x :: y :: ys) (y :: ih) (ltT y x)) l
def sortT (l : List Tx) : List Tx := @List.rec Tx (fun _ => List Tx) [] (fun x _ ih => insT x ih) l
def strsOf (vs : List V) : (List Tx → Bool) → Bool :=
  @List.rec V (fun _ => (List Tx → Bool) → Bool) (fun k => k []) (fun x _ ih k => asStr x fun s => ih fun l => k (s :: l)) vs
def mapL {α β : Type} (f : α → β) (l : List α) : List β := @List.rec α (fun _ => List β) [] (fun x _ r => f x :: r) l
def oSorted : O1 := fun a h k => asList a h fun vs => strsOf vs fun l => @Bool.rec (fun _ => Bool) false (newO (.list (mapL V.str (sortT l))) h k) (Nat.blt (lenL vs) 64)

def memN (i : Nat) (is : List Nat) : Bool := @List.rec Nat (fun _ => Bool) false (fun j _ ih => @Bool.rec (fun _ => Bool) ih true (Nat.beq i j)) is
-- methods
def cM (t : V → Hp → Bool) (o : O2) (F G : C) : C := fun l h k => F l h fun a h => chk (t a h) (G l h fun b h => o a b h k)
def isListB (a : V) (h : Hp) : Bool := asList a h fun _ => true
def isStrB (a : V) (_ : Hp) : Bool := asStr a fun _ => true
def oPopAt : O2 := fun a b h k => asList a h fun vs => asNat b fun i => chk (Nat.ble (lenL vs) 4096) <| match nthO vs i with
  | some v => setO a (.list (appL (takeL vs i) (dropL vs (i + 1)))) h fun h => k v h
  | .none => false
def oAppend : O2 := fun a b h k => asList a h fun vs => chk (Nat.ble (lenL vs) 4096) <| setO a (.list (appL vs [b])) h fun h => k .none h
def countI (x : Int) (vs : List V) : (Nat → Bool) → Bool :=
  @List.rec V (fun _ => (Nat → Bool) → Bool) (fun k => k 0) (fun v _ ih k => asInt v fun i => ih fun n => k (@Bool.rec (fun _ => Nat) n (Nat.succ n) (eqZ i x))) vs
def oCount : O2 := fun a b h k => asList a h fun vs => asInt b fun x => countI x vs fun n => k (.int (Int.ofNat n)) h
def joinT (sep : Tx) (l : List Tx) : Tx :=
  @List.rec Tx (fun _ => Tx) [] (fun x xs ih => @List.rec Tx (fun _ => Tx) x (fun _ _ _ => appL x (appL sep ih)) xs) l
def sumL (l : List Tx) : Nat := @List.rec Tx (fun _ => Nat) 0 (fun x _ n => Nat.add (Nat.succ (lenL x)) n) l
def oJoin : O2 := fun a b h k => asStr a fun sep => asList b h fun vs => strsOf vs fun l => chk (Nat.ble (lenL sep) 16) (chk (Nat.ble (sumL l) 4096) (k (.str (joinT sep l)) h))
-- split at one sign
def splitC (c : Nat) (s : Tx) : Tx → List Tx :=
  @List.rec Nat (fun _ => Tx → List Tx) (fun cur => [revL cur []]) (fun x _ ih cur => @Bool.rec (fun _ => List Tx) (ih (x :: cur)) (revL cur [] :: ih []) (Nat.beq x c)) s
def oSplit : O2 := fun a b h k => asStr a fun s => asStr b fun c => match c with | [c] => chk (Nat.ble (lenL s) 4096) (newO (.list (mapL V.str (splitC c s []))) h k) | _ => false
-- word.replace(ws[a][i], ws[b][j]): one sign by another one
def at2 (l : List V) (w a i : Nat) (h : Hp) (k : Nat → Bool) : Bool := cVar w l h fun v h => asList v h fun vs => match nthO vs a with | some (.str s) => (match nthO s i with | some c => k c | .none => false) | _ => false
def cReplace (F : C) (w a i b j : Nat) : C := fun l h k => F l h fun v h => asStr v fun s => at2 l w a i h fun x => at2 l w b j h fun y =>
  chk (Nat.ble (lenL s) 4096) <| @Bool.rec (fun _ => Bool) (k (.str (mapL (fun z => @Bool.rec (fun _ => Nat) z y (Nat.beq z x)) s)) h) false (Nat.beq x y)

-- tests
def bC (F : C) : B := fun l h k => F l h fun v h => match v with | .bool b => k b h | _ => false
def bNot (t : B) : B := fun l h k => t l h fun b h => k (!b) h
def bAnd (t u : B) : B := fun l h k => t l h fun b h => @Bool.rec (fun _ => Bool) (k false h) (u l h k) b
def bOr (t u : B) : B := fun l h k => t l h fun b h => @Bool.rec (fun _ => Bool) (u l h k) (k true h) b
def cNot (t : B) : C := fun l h k => t l h fun b h => k (.bool (!b)) h

-- iteration: what an iterable gives, turn by turn
-- It: given loc and heap, hands on a stepper: turn number -> heap -> (none: end | some list of targets' values)
abbrev Stp := Nat → Hp → (Option (List V) → Bool) → Bool
abbrev It := List V → Hp → (Nat → Stp → Hp → Bool) → Bool
def iList (F : C) : It := fun l h k => F l h fun v h => asList v h fun vs => k (lenL vs) (fun i h c => asList v h fun vs => match nthO vs i with | some x => c (some [x]) | .none => c .none) h
def tupIn (x : V) (h : Hp) (n : Nat) (c : Option (List V) → Bool) : Bool := asTup x h fun ws => @Bool.rec (fun _ => Bool) false (c (some ws)) (Nat.beq (lenL ws) n)
-- a list of tuples, unpacked into n targets
def iListT (n : Nat) (F : C) : It := fun l h k => F l h fun v h => asList v h fun vs => k (lenL vs) (fun i h c => asList v h fun vs => match nthO vs i with | some x => tupIn x h n c | .none => c .none) h
def iRange (F : C) : It := fun l h k => F l h fun v h => asNat v fun n => chk (Nat.blt n 4096) <| k n (fun i _ c => @Bool.rec (fun _ => Bool) (c .none) (c (some [.int (Int.ofNat i)])) (Nat.blt i n)) h
def iRange2 (F G : C) : It := fun l h k => F l h fun u h => G l h fun v h => asNat u fun m => asNat v fun n => chk (Nat.blt m 4096) <| chk (Nat.blt n 4096) <| k (n - m) (fun i _ c => @Bool.rec (fun _ => Bool) (c .none) (c (some [.int (Int.ofNat (m + i))])) (Nat.blt (m + i) n)) h
def iEnum (F : C) : It := fun l h k => F l h fun v h => asList v h fun vs => k (lenL vs) (fun i h c => asList v h fun vs => match nthO vs i with | some x => c (some [.int (Int.ofNat i), x]) | .none => c .none) h
/-- enumerate over a list that stands outside of what is held, its ints known -/
def iEnumP (L : Nat) (ns : List Int) (F : C) : It := fun l h k => F l h fun v h => match v with
  | .adr a => @Bool.rec (fun _ => Bool) false (k (lenL ns) (fun i _ c => match nthO ns i with | some x => c (some [.int (Int.ofNat i), .int x]) | .none => c .none) h) (Nat.beq a L)
  | _ => false
def iZip (F G : C) : It := fun l h k => F l h fun v h => G l h fun w h => asList v h fun vs => asList w h fun ws => k (lenL vs) (fun i h c => asList v h fun vs => asList w h fun ws => match nthO vs i, nthO ws i with | some x, some y => c (some [x, y]) | _, _ => c .none) h
def iVals (F : C) : It := fun l h k => F l h fun v h => asDictE v h fun ep es => k (lenL es) (fun i h c => asDictE v h fun ep' es' => chk (Nat.beq ep' ep) <| chk (Nat.beq (lenL es') (lenL es)) <| match nthO es' i with | some x => c (some [x.2]) | .none => c .none) h

-- comprehension: the accumulated values are kept outside the heap until the end (latest first)
abbrev G := List V → Hp → List V → (Hp → List V → Bool) → Bool
def gElt (F : C) : G := fun l h acc k => F l h fun v h => chk (Nat.ble (lenL acc) 4096) (k h (v :: acc))
def gIf (t : B) (g : G) : G := fun l h acc k => t l h fun b h => @Bool.rec (fun _ => Bool) (k h acc) (g l h acc k) b
def setMany (is : List Nat) : List V → List V → (List V → Bool) → Bool :=
  @List.rec Nat (fun _ => List V → List V → (List V → Bool) → Bool) (fun xs l k => match xs with | [] => k l | _ => false)
    (fun i _ ih xs l k => match xs with | [] => false | x :: xs => ih xs (setV x l i) k) is
def isUnb (v : V) : Bool := match v with | .unb => true | _ => false
def allUnb (is : List Nat) (l : List V) : Bool := @List.rec Nat (fun _ => Bool) true (fun i _ ih => @Bool.rec (fun _ => Bool) false ih (isUnb (nthV l i))) is
def gLoop (stp : Stp) (is : List Nat) (g : G) (l : List V) (n : Nat) : Nat → Hp → List V → (Hp → List V → Bool) → Bool :=
  @Nat.rec (fun _ => Nat → Hp → List V → (Hp → List V → Bool) → Bool) (fun i h acc k => stp i h fun o => match o with | .none => k h acc | _ => false)
    (fun _ ih i h acc k => stp i h fun o => match o with | .none => k h acc | some xs => setMany is xs l fun l => g l h acc fun h acc => ih (Nat.succ i) h acc k) n
def gFor (is : List Nat) (it : It) (g : G) : G := fun l h acc k => it l h fun n stp h => chk (allUnb is l) (gLoop stp is g l n 0 h acc k)
def unbsOn (m : Nat) (l : List V) : List V := @Nat.rec (fun _ => List V) l (fun _ r => .unb :: r) m
def cComp (m : Nat) (is : List Nat) (it : It) (g : G) : C := fun l h k => it l h fun n stp h => chk (allUnb is (unbsOn m l)) (gLoop stp is g (unbsOn m l) n 0 h [] fun h acc => newO (.list (revL acc [])) h k)

-- statements
abbrev T := V → List V → Hp → (List V → Hp → Bool) → Bool
def sSet (i : Nat) (F : C) : S := fun l h kn _ _ => F l h fun v h => kn (setV v l i) h
-- a, b = e1, e2
def sSets (is : List Nat) (fs : List C) : S := fun l h kn _ _ => evs fs l h fun vs h => setMany is vs l fun l => kn l h
/-- the stores of a swap run from the last to the first -/
def sSetsR (is : List Nat) (fs : List C) : S := fun l h kn _ _ => evs fs l h fun vs h => setMany is (revL vs []) l fun l => kn l h
-- a, b = tuple
def sUnpack (is : List Nat) (F : C) : S := fun l h kn _ _ => F l h fun v h => asTup v h fun vs => setMany is vs l fun l => kn l h
def sSetD (F G J : C) : S := fun l h kn _ _ => F l h fun v h => G l h fun d h => J l h fun x h => asDictE d h fun ep es => asStr x fun x => chk (Nat.ble (lenL es) 4096) <|
  match findT x es with | .none => setO d (.dict (Nat.succ ep) (appL es [(x, v)])) h fun h => kn l h | some _ => false
def setAt {α : Type} (v : α) (l : List α) : Nat → List α :=
  @List.rec α (fun _ => Nat → List α) (fun _ => []) (fun x xs ih i => @Nat.rec (fun _ => List α) (v :: xs) (fun j _ => x :: ih j) i) l
def oSetL (d i v : V) (h : Hp) (k : Hp → Bool) : Bool := asList d h fun vs => asNat i fun i => @Bool.rec (fun _ => Bool) false (chk (Nat.blt i 4096) (setO d (.list (setAt v vs i)) h k)) (Nat.blt i (lenL vs))
-- xs[i] = v   (order: value, object, index)
def sSetL (F G J : C) : S := fun l h kn _ _ => F l h fun v h => G l h fun d h => J l h fun i h => oSetL d i v h fun h => kn l h
-- xs[i] += int
def sAugL (G J F : C) : S := fun l h kn _ _ => G l h fun d h => J l h fun i h => oItemL d i h fun old h => F l h fun v h => oAddI old v h fun new h => oSetL d i new h fun h => kn l h
def sAug (o : O2) (i : Nat) (F : C) : S := fun l h kn _ _ => cVar i l h fun a h => F l h fun b h => o a b h fun v h => kn (setV v l i) h
def sExpr (F : C) : S := fun l h kn _ _ => F l h fun _ h => kn l h
def sRet (F : C) : S := fun l h _ kr _ => F l h kr
def sBrk : S := fun l h _ _ kb => kb l h
def sSkip : S := fun l h kn _ _ => kn l h
def sSeq (a b : S) : S := fun l h kn kr kb => a l h (fun l h => b l h kn kr kb) kr kb
def sBlock (ss : List S) : S := @List.rec S (fun _ => S) sSkip (fun s _ ih => sSeq s ih) ss
def sIf (t : B) (a b : S) : S := fun l h kn kr kb => t l h fun b' h => @Bool.rec (fun _ => Bool) (b l h kn kr kb) (a l h kn kr kb) b'
def sLoop (stp : Stp) (is : List Nat) (b : S) (n : Nat) : Nat → List V → Hp → (List V → Hp → Bool) → K → Bool :=
  @Nat.rec (fun _ => Nat → List V → Hp → (List V → Hp → Bool) → K → Bool) (fun i l h kn _ => stp i h fun o => match o with | .none => kn l h | _ => false)
    (fun _ ih i l h kn kr => stp i h fun o => match o with | .none => kn l h | some xs => setMany is xs l fun l => b l h (fun l h => ih (Nat.succ i) l h kn kr) kr kn) n
def sFor (is : List Nat) (it : It) (b : S) : S := fun l h kn kr _ => it l h fun n stp h => sLoop stp is b n 0 l h kn kr
def sWhile (n : Nat) (t : B) (b : S) : S := fun l h kn kr _ =>
  @Nat.rec (fun _ => List V → Hp → Bool) (fun _ _ => false) (fun _ ih l h => t l h fun c h => @Bool.rec (fun _ => Bool) (kn l h) (b l h ih kr kn) c) n l h

-- what is kept of slots and of the heap
def blankOn (is : List Nat) (l : List V) : Nat → List V :=
  @List.rec V (fun _ => Nat → List V) (fun _ => []) (fun x _ ih i => (@Bool.rec (fun _ => V) .unb x (memN i is)) :: ih (Nat.succ i)) l
def baseT (n : Nat) : Tr := @Nat.rec (fun _ => Tr) .nil (fun i t => t.put .any i) n
def keepT (t t0 : Tr) (js : List Nat) : Tr := @List.rec Nat (fun _ => Tr) t0 (fun j _ ih => match t.get j with | some o => ih.put o j | .none => ih) js
def sKeep (is js : List Nat) : S := fun l h kn _ _ => kn (blankOn is l 0) ⟨keepT h.t (baseT h.n) js, h.n⟩
-- functions: slots, body; falling off the end gives None
def unbs (n : Nat) : List V := @Nat.rec (fun _ => List V) [] (fun _ r => .unb :: r) n
abbrev Fn := List V → Hp → K → Bool
def fDef (n : Nat) (b : S) : Fn := fun args h k => b (appL args (unbs n)) h (fun _ h => k .none h) k (fun _ _ => false)
def cCall (f : Fn) (fs : List C) : C := fun l h k => evs fs l h fun vs h => f vs h k

-- the accumulator
def oNewAcc : O1 := fun a h k => asInt a fun f => newO (.inst f) h fun d h => asRef d fun dk => newO (.acc dk []) h k
def oPush : V → V → V → Hp → K → Bool := fun a x y h k => asAcc a h fun f vs => newO (.tup [x, y]) h fun t h => setO a (.acc f (appL vs [t])) h fun h => k .none h
def lastO {α : Type} (l : List α) : Option α := @List.rec α (fun _ => Option α → Option α) (fun d => d) (fun x _ ih _ => ih (some x)) l .none
def oPop : O1 := fun a h k => asAcc a h fun f vs => match lastO vs with
  | .none => newO (.tup [.str [], .str []]) h k
  | some v => setO a (.acc f (takeL vs (lenL vs - 1))) h fun h => k v h
def oPopFrom : O2 := fun a b h k => asAcc a h fun f vs => asNat b fun i => setO a (.acc f (takeL vs i)) h fun h => newO (.list (dropL vs i)) h k
def oPart : O1 := fun a h k => asAcc a h fun _ vs => k (.int (Int.ofNat (lenL vs))) h
def sumP (h : Hp) (vs : List V) : Int → (Int → Bool) → Bool :=
  @List.rec V (fun _ => Int → (Int → Bool) → Bool) (fun a k => k a) (fun x _ ih a k => asTup x h fun ws => match ws with
    | [.str s, .str t] => ih (a + Int.ofNat (lenL s + lenL t)) k
    | _ => false) vs
def oLenA : O1 := fun a h k => asAcc a h fun dk vs => match h.t.get dk with | some (.inst f) => sumP h vs f fun i => k (.int i) h | _ => false
end
end Mine
namespace Mine
open PySem PySem.W PyProof.Rows

abbrev toStr (s : Tx) : Str := ⟨s.toArray⟩

def VR (ρ : List Addr) : V → Value → Prop
  | .unb, _ => False
  | .none, v => v = .none
  | .bool b, v => v = .bool b
  | .int i, v => ∃ t, v = .int i t
  | .str s, v => ∃ t, v = .str (toStr s) t
  | .ref k, v => ∃ a, ρ[k]? = some a ∧ v = .ref a
  | .adr a, v => v = .ref a

noncomputable def VRs (ρ : List Addr) : List V → List Value → Prop
  | [], [] => True
  | x :: xs, v :: vs => VR ρ x v ∧ VRs ρ xs vs
  | _, _ => False

theorem get_pre {ρ ρ' : List Addr} (h : ρ <+: ρ') {k : Nat} {a : Addr} (e : ρ[k]? = some a) : ρ'[k]? = some a := by
  obtain ⟨t, rfl⟩ := h
  rw [List.getElem?_append_left (List.getElem?_eq_some_iff.mp e).1]; exact e
theorem VR.mono {ρ ρ' : List Addr} (h : ρ <+: ρ') : ∀ {x : V} {v : Value}, VR ρ x v → VR ρ' x v := by
  intro x v q
  cases x <;> first | exact q | (obtain ⟨a, e, r⟩ := q; exact ⟨a, get_pre h e, r⟩)
theorem VRs.mono {ρ ρ' : List Addr} (h : ρ <+: ρ') : ∀ {xs : List V} {vs : List Value}, VRs ρ xs vs → VRs ρ' xs vs
  | [], [], _ => trivial
  | _ :: _, _ :: _, ⟨a, b⟩ => ⟨a.mono h, VRs.mono h b⟩
  | [], _ :: _, q => q.elim
  | _ :: _, [], q => q.elim
theorem VRs.len {ρ : List Addr} : ∀ {xs : List V} {vs : List Value}, VRs ρ xs vs → xs.length = vs.length
  | [], [], _ => rfl
  | _ :: _, _ :: _, ⟨_, b⟩ => by simp [b.len]
  | [], _ :: _, q => q.elim
  | _ :: _, [], q => q.elim
theorem VRs.get {ρ : List Addr} : ∀ {xs : List V} {vs : List Value}, VRs ρ xs vs → ∀ {i : Nat} {x : V}, xs[i]? = some x → ∃ v, vs[i]? = some v ∧ VR ρ x v
  | [], [], _, i, x, e => by simp at e
  | x :: xs, v :: vs, ⟨a, b⟩, 0, y, e => by simp at e; subst e; exact ⟨v, by simp, a⟩
  | x :: xs, v :: vs, ⟨a, b⟩, i + 1, y, e => by simp at e; obtain ⟨w, h1, h2⟩ := b.get e; exact ⟨w, by simpa using h1, h2⟩
  | [], _ :: _, q, _, _, _ => q.elim
  | _ :: _, [], q, _, _, _ => q.elim
theorem VRs.app {ρ : List Addr} : ∀ {xs ys : List V} {vs ws : List Value}, VRs ρ xs vs → VRs ρ ys ws → VRs ρ (xs ++ ys) (vs ++ ws)
  | [], _, [], _, _, q => q
  | _ :: _, _, _ :: _, _, ⟨a, b⟩, q => ⟨a, b.app q⟩
  | [], _, _ :: _, _, q, _ => q.elim
  | _ :: _, _, [], _, q, _ => q.elim

-- the equations of Comb's functions
theorem nthV_eq (l : List V) (i : Nat) : nthV l i = l.getD i .unb := by
  induction l generalizing i with
  | nil => rfl
  | cons x xs ih => cases i with
    | zero => rfl
    | succ i => show nthV xs i = _; rw [ih]; simp
theorem nthO_eq {α : Type} (l : List α) (i : Nat) : nthO l i = l[i]? := by
  induction l generalizing i with
  | nil => simp [nthO]
  | cons x xs ih => cases i with
    | zero => rfl
    | succ i => show nthO xs i = _; rw [ih]; simp
theorem lenL_eq {α : Type} (l : List α) : lenL l = l.length := by
  induction l with
  | nil => rfl
  | cons x xs ih => show Nat.succ (lenL xs) = _; rw [ih]; rfl
theorem appL_eq {α : Type} (l m : List α) : appL l m = l ++ m := by
  induction l with
  | nil => rfl
  | cons x xs ih => show x :: appL xs m = _; rw [ih]; rfl
theorem takeL_eq {α : Type} (l : List α) (i : Nat) : takeL l i = l.take i := by
  induction l generalizing i with
  | nil => simp [takeL]
  | cons x xs ih => cases i with
    | zero => rfl
    | succ i => show x :: takeL xs i = _; rw [ih]; simp
theorem dropL_eq {α : Type} (l : List α) (i : Nat) : dropL l i = l.drop i := by
  induction l generalizing i with
  | nil => simp [dropL]
  | cons x xs ih => cases i with
    | zero => rfl
    | succ i => show dropL xs i = _; rw [ih]; simp
theorem revL_eq {α : Type} (l a : List α) : revL l a = l.reverse ++ a := by
  induction l generalizing a with
  | nil => rfl
  | cons x xs ih => show revL xs (x :: a) = _; rw [ih]; simp
theorem setV_eq (v : V) (l : List V) (i : Nat) : setV v l i = l.set i v := by
  induction l generalizing i with
  | nil => simp [setV]
  | cons x xs ih => cases i with
    | zero => rfl
    | succ i => show x :: setV v xs i = _; rw [ih]; simp
theorem setAt_eq {α : Type} (v : α) (l : List α) (i : Nat) : setAt v l i = l.set i v := by
  induction l generalizing i with
  | nil => simp [setAt]
  | cons x xs ih => cases i with
    | zero => rfl
    | succ i => show x :: setAt v xs i = _; rw [ih]; simp
theorem mapL_eq {α β : Type} (f : α → β) (l : List α) : mapL f l = l.map f := by
  induction l with
  | nil => rfl
  | cons x xs ih => show f x :: mapL f xs = _; rw [ih]; rfl

theorem Tr.get_nil (i : Nat) : Tr.nil.get i = .none := rfl
theorem Tr.get_zero (o l r) : (Tr.node o l r).get 0 = some o := rfl
theorem Tr.get_succ (o l r) (j : Nat) : (Tr.node o l r).get (j + 1) = if j % 2 = 0 then l.get (j / 2) else r.get (j / 2) := by
  show @Bool.rec (fun _ => Option Ob) (r.get (j / 2)) (l.get (j / 2)) (Nat.beq (j % 2) 0) = _
  cases h : Nat.beq (j % 2) 0 with
  | true => rw [if_pos (Nat.eq_of_beq_eq_true h)]
  | false => rw [if_neg (Nat.ne_of_beq_eq_false h)]
theorem Tr.put_nil0 (o' : Ob) : Tr.nil.put o' 0 = .node o' .nil .nil := rfl
theorem Tr.put_nil1 (o' : Ob) (i : Nat) : Tr.nil.put o' (i + 1) = .nil := rfl
theorem Tr.put_zero (o' o l r) : (Tr.node o l r).put o' 0 = .node o' l r := rfl
theorem Tr.put_succ (o' o l r) (j : Nat) : (Tr.node o l r).put o' (j + 1) = if j % 2 = 0 then .node o (l.put o' (j / 2)) r else .node o l (r.put o' (j / 2)) := by
  show @Bool.rec (fun _ => Tr) (.node o l (r.put o' (j / 2))) (.node o (l.put o' (j / 2)) r) (Nat.beq (j % 2) 0) = _
  cases h : Nat.beq (j % 2) 0 with
  | true => rw [if_pos (Nat.eq_of_beq_eq_true h)]
  | false => rw [if_neg (Nat.ne_of_beq_eq_false h)]
theorem Tr.get_put (o' : Ob) : ∀ (t : Tr) (i j : Nat) {o : Ob}, (t.put o' i).get j = some o → (j = i ∧ o = o') ∨ (j ≠ i ∧ t.get j = some o)
  | .nil, i, j, o, e => by
    cases i with
    | zero =>
      rw [Tr.put_nil0] at e
      cases j with
      | zero => rw [Tr.get_zero] at e; exact .inl ⟨rfl, (Option.some.inj e).symm⟩
      | succ j => rw [Tr.get_succ] at e; split at e <;> cases e
    | succ i => rw [Tr.put_nil1] at e; cases e
  | .node x l r, i, j, o, e => by
    cases i with
    | zero =>
      rw [Tr.put_zero] at e
      cases j with
      | zero => rw [Tr.get_zero] at e; exact .inl ⟨rfl, (Option.some.inj e).symm⟩
      | succ j => rw [Tr.get_succ] at e ⊢; exact .inr ⟨by omega, e⟩
    | succ i =>
      rw [Tr.put_succ] at e
      cases j with
      | zero =>
        have : (Tr.node x l r).get 0 = some o := by
          split at e <;> rw [Tr.get_zero] at e <;> rw [Tr.get_zero] <;> exact e
        exact .inr ⟨by omega, this⟩
      | succ j =>
        rw [Tr.get_succ]
        split at e
        · rename_i hi
          rw [Tr.get_succ] at e
          split at e
          · rename_i hj
            rw [if_pos hj]
            rcases Tr.get_put o' l _ _ e with ⟨a, b⟩ | ⟨a, b⟩
            · exact .inl ⟨by omega, b⟩
            · exact .inr ⟨by omega, b⟩
          · rename_i hj; rw [if_neg hj]; exact .inr ⟨by omega, e⟩
        · rename_i hi
          rw [Tr.get_succ] at e
          split at e
          · rename_i hj; rw [if_pos hj]; exact .inr ⟨by omega, e⟩
          · rename_i hj
            rw [if_neg hj]
            rcases Tr.get_put o' r _ _ e with ⟨a, b⟩ | ⟨a, b⟩
            · exact .inl ⟨by omega, b⟩
            · exact .inr ⟨by omega, b⟩
end Mine
namespace Mine
open PySem PySem.W PyProof.Rows

structure Wd where
  prog : Program
  w : World
  os₀ : OsState
  hB : Heap
  accC : Addr
  mg : Str → Option Value
  mb : Str → Option Value

def biNames : List Str := ["len", "sum", "min", "max", "int", "isinstance", "sorted", "range", "enumerate", "zip", "bool"]
/-- what is asked of the heap that the law's call finds -/
structure BaseOK (W : Wd) : Prop where
  g : W.hB.Ns mainGlobals W.mg
  b : W.hB.Ns builtinsNs W.mb
  bb : ∀ x : Str, x ≠ "__name__" → W.mb x = bootBuiltins x
  bi : ∀ x ∈ biNames, W.mg x = none
  nolimit : W.hB.NoLimit

noncomputable def KRs (ρ : List Addr) : List (Tx × V) → List (Str × Value) → Prop
  | [], [] => True
  | e :: es, v :: vs => v.1 = toStr e.1 ∧ VR ρ e.2 v.2 ∧ KRs ρ es vs
  | _, _ => False
theorem KRs.mono {ρ ρ' : List Addr} (h : ρ <+: ρ') : ∀ {xs : List (Tx × V)} {vs : List (Str × Value)}, KRs ρ xs vs → KRs ρ' xs vs
  | [], [], _ => trivial
  | _ :: _, _ :: _, ⟨a, b, c⟩ => ⟨a, b.mono h, KRs.mono h c⟩
  | [], _ :: _, q => q.elim
  | _ :: _, [], q => q.elim

def OB (W : Wd) (ρ : List Addr) (h : Heap) (a : Addr) : Ob → Prop
  | .list vs => ∃ items, h.PlainList a items.toArray ∧ VRs ρ vs items
  | .tup vs => ∃ items, ∃ n, h.get? a = some { cls := .type "tuple", data := .seq items.toArray n } ∧ VRs ρ vs items
  | .dict ep es => (a == sysModules) = false ∧ ∃ kvs, h.DictAt (strKind W.prog W.w) a kvs ep ∧ KRs ρ es kvs
  | .inst f => ∃ hs t u n, h.get? a = some (dictOf [⟨hs, .str (Str.ofString "_initial_size") t, .int f u⟩] n)
  | .acc dk vs => ∃ items n dx sl, h.get? a = some ⟨.ref W.accC, some dx, .seq items.toArray n, sl⟩ ∧ VRs ρ vs items ∧ ρ[dk]? = some dx
  | .tab => a = (87 : Nat) ∧ ∃ ps : Array Value, h.get? a = some { cls := .none, data := .fields ps } ∧ TriplesOk ps.toList
  | .any => ∃ o, h.get? a = some o

theorem OB.at {W : Wd} {ρ : List Addr} {h h' : Heap} {a : Addr} {o : Ob} (x : OB W ρ h a o) (hk : ∀ ob, h.get? a = some ob → h'.get? a = some ob) : OB W ρ h' a o := by
  cases o with
  | list vs => obtain ⟨items, ⟨n, e⟩, r⟩ := x; exact ⟨items, ⟨n, hk _ e⟩, r⟩
  | tup vs => obtain ⟨items, n, e, r⟩ := x; exact ⟨items, n, hk _ e, r⟩
  | dict ep es => obtain ⟨q, kvs, e, r⟩ := x; exact ⟨q, kvs, e.at' hk, r⟩
  | inst f => obtain ⟨hs, t, u, n, e⟩ := x; exact ⟨hs, t, u, n, hk _ e⟩
  | acc dk vs => obtain ⟨items, n, dx, sl, e, r⟩ := x; exact ⟨items, n, dx, sl, hk _ e, r⟩
  | tab => obtain ⟨e0, ps, e, r⟩ := x; exact ⟨e0, ps, hk _ e, r⟩
  | any => obtain ⟨o, e⟩ := x; exact ⟨o, hk _ e⟩
theorem OB.mono {W : Wd} {ρ ρ' : List Addr} {h : Heap} {a : Addr} {o : Ob} (hp : ρ <+: ρ') (x : OB W ρ h a o) : OB W ρ' h a o := by
  cases o with
  | list vs => obtain ⟨items, e, r⟩ := x; exact ⟨items, e, r.mono hp⟩
  | tup vs => obtain ⟨items, n, e, r⟩ := x; exact ⟨items, n, e, r.mono hp⟩
  | dict ep es => obtain ⟨q, kvs, e, r⟩ := x; exact ⟨q, kvs, e, r.mono hp⟩
  | inst f => exact x
  | acc dk vs => obtain ⟨items, n, dx, sl, e, r, d⟩ := x; exact ⟨items, n, dx, sl, e, r.mono hp, get_pre hp d⟩
  | tab => exact x
  | any => exact x
theorem OB.some {W : Wd} {ρ : List Addr} {h : Heap} {a : Addr} {o : Ob} (x : OB W ρ h a o) : ∃ ob, h.get? a = some ob := by
  cases o with
  | list vs => obtain ⟨items, ⟨n, e⟩, r⟩ := x; exact ⟨_, e⟩
  | tup vs => obtain ⟨items, n, e, r⟩ := x; exact ⟨_, e⟩
  | dict ep es => obtain ⟨_, kvs, ⟨o, _, e, _⟩, r⟩ := x; exact ⟨_, e⟩
  | inst f => obtain ⟨hs, t, u, n, e⟩ := x; exact ⟨_, e⟩
  | acc dk vs => obtain ⟨items, n, dx, sl, e, r⟩ := x; exact ⟨_, e⟩
  | tab => obtain ⟨e0, ps, e, r⟩ := x; exact ⟨_, e⟩
  | any => exact x

theorem nodup_inj {α : Type} {l : List α} (h : l.Nodup) {i j : Nat} (hi : i < l.length) (hj : j < l.length) (e : l[i] = l[j]) : i = j := by
  rcases Nat.lt_trichotomy i j with q | q | q
  · exact absurd e (List.pairwise_iff_getElem.mp h i j hi hj q)
  · exact q
  · exact absurd e.symm (List.pairwise_iff_getElem.mp h j i hj hi q)

/-- the heap's relation -/
structure HR (W : Wd) (h₀ : Heap) (ρ : List Addr) (H : Hp) (s : Shared) : Prop where
  len : ρ.length = H.n
  nd : ρ.Nodup
  obj : ∀ k o, H.t.get k = some o → ∃ a, ρ[k]? = some a ∧ OB W ρ s.heap a o
  live : ∀ a ∈ ρ, ∃ o, s.heap.get? a = some o
  keep : ∀ b o, h₀.get? b = some o → s.heap.get? b = some o
  sep : ∀ a ∈ ρ, h₀.get? a = none
  base : ∀ b o, W.hB.get? b = some o → h₀.get? b = some o
  os : s.os = W.os₀
  bare : AllBare s.gens
  bok : BaseOK W

theorem HR.baseS {W : Wd} {h₀ : Heap} {ρ : List Addr} {H : Hp} {s : Shared} (R : HR W h₀ ρ H s) : ∀ b o, W.hB.get? b = some o → s.heap.get? b = some o :=
  fun b o e => R.keep b o (R.base b o e)

/-- a change of the heap that touches nothing that is held -/
theorem HR.chg {W : Wd} {h₀ : Heap} {ρ : List Addr} {H : Hp} {s : Shared} (R : HR W h₀ ρ H s) {s' : Shared}
    (hk : ∀ b o, b ∈ ρ ∨ h₀.get? b = some o → s.heap.get? b = some o → s'.heap.get? b = some o)
    (hos : s'.os = s.os := by rfl) (hg : AllBare s'.gens := by first | assumption | exact HR.bare ‹_›) : HR W h₀ ρ H s' :=
  ⟨R.len, R.nd, fun k o e => let ⟨a, ha, ho⟩ := R.obj k o e; ⟨a, ha, ho.at fun ob q => hk a ob (.inl (List.mem_of_getElem? ha)) q⟩,
    fun a ha => let ⟨o, e⟩ := R.live a ha; ⟨o, hk a o (.inl ha) e⟩, fun b o e => hk b o (.inr e) (R.keep b o e), R.sep, R.base, hos.trans R.os, hg, R.bok⟩

/-- the heap grows, everything else stays -/
theorem HR.ext {W : Wd} {h₀ : Heap} {ρ : List Addr} {H : Hp} {s : Shared} (R : HR W h₀ ρ H s) {s' : Shared} (hk : ∀ b o, s.heap.get? b = some o → s'.heap.get? b = some o)
    (hos : s'.os = s.os := by rfl) (hg : s'.gens = s.gens := by rfl) : HR W h₀ ρ H s' :=
  R.chg (fun b o _ e => hk b o e) hos (hg ▸ R.bare)

/-- a new object is taken on -/
theorem HR.add {W : Wd} {h₀ : Heap} {ρ : List Addr} {H : Hp} {s : Shared} (R : HR W h₀ ρ H s) {s' : Shared} {a : Addr} {o : Ob}
    (hk : ∀ b o, s.heap.get? b = some o → s'.heap.get? b = some o) (hnew : s.heap.objs.size ≤ a) (ho : OB W (ρ ++ [a]) s'.heap a o)
    (hos : s'.os = s.os := by rfl) (hg : s'.gens = s.gens := by rfl) : HR W h₀ (ρ ++ [a]) ⟨H.t.put o H.n, H.n.succ⟩ s' := by
  have hρ : ∀ b ∈ ρ, b ≠ a := fun b hb e => let ⟨_, q⟩ := R.live b hb; Nat.lt_irrefl _ (Nat.lt_of_lt_of_le (Heap.lt_size q) (e ▸ hnew))
  have pre : ρ <+: ρ ++ [a] := List.prefix_append _ _
  refine ⟨by simp [R.len], List.nodup_append.mpr ⟨R.nd, by simp, fun x hx y hy => by simp at hy; subst hy; exact hρ x hx⟩, fun k o' e => ?_, fun b hb => ?_, fun b o' e => hk b o' (R.keep b o' e), fun b hb => ?_, R.base, hos.trans R.os, hg ▸ R.bare, R.bok⟩
  · rcases Tr.get_put o H.t H.n k e with ⟨rfl, rfl⟩ | ⟨_, e'⟩
    · exact ⟨a, by rw [← R.len]; simp, ho⟩
    · obtain ⟨b, hb, hob⟩ := R.obj k o' e'
      exact ⟨b, get_pre pre hb, (hob.mono pre).at fun ob q => hk b ob q⟩
  · rcases List.mem_append.mp hb with h | h
    · obtain ⟨o', q⟩ := R.live b h; exact ⟨o', hk _ _ q⟩
    · simp at h; subst h; exact ho.some
  · rcases List.mem_append.mp hb with h | h
    · exact R.sep b h
    · simp at h; subst h
      cases q : h₀.get? b with
      | none => rfl
      | some o' => exact absurd (Heap.lt_size (R.keep b o' q)) (Nat.not_lt.mpr hnew)

/-- a held object is changed -/
theorem HR.upd {W : Wd} {h₀ : Heap} {ρ : List Addr} {H : Hp} {s : Shared} (R : HR W h₀ ρ H s) {s' : Shared} {k : Nat} {a : Addr} {o : Ob} (ha : ρ[k]? = some a)
    (hk : ∀ b o, b ≠ a → s.heap.get? b = some o → s'.heap.get? b = some o) (ho : OB W ρ s'.heap a o)
    (hos : s'.os = s.os := by rfl) (hg : s'.gens = s.gens := by rfl) : HR W h₀ ρ ⟨H.t.put o k, H.n⟩ s' := by
  have hm := List.mem_of_getElem? ha
  refine ⟨R.len, R.nd, fun j o' e => ?_, fun b hb => ?_, fun b o' e => hk b o' (fun q => ?_) (R.keep b o' e), R.sep, R.base, hos.trans R.os, hg ▸ R.bare, R.bok⟩
  · rcases Tr.get_put o H.t k j e with ⟨rfl, rfl⟩ | ⟨hj, e'⟩
    · exact ⟨a, ha, ho⟩
    · obtain ⟨b, hb, hob⟩ := R.obj j o' e'
      refine ⟨b, hb, hob.at fun ob q => hk b ob (fun hba => hj ?_) q⟩
      subst hba
      obtain ⟨h1, e1⟩ := List.getElem?_eq_some_iff.mp hb
      obtain ⟨h2, e2⟩ := List.getElem?_eq_some_iff.mp ha
      exact nodup_inj R.nd h1 h2 (e1.trans e2.symm)
  · by_cases q : b = a
    · subst q; exact ho.some
    · obtain ⟨o', e⟩ := R.live b hb; exact ⟨o', hk b o' q e⟩
  · subst q; rw [R.sep b hm] at e; cases e

-- frames
inductive Loc where
  | var (L : Addr) (x : Str)
  | cell (c : Addr)
  deriving DecidableEq
def Loc.addr : Loc → Addr
  | .var L _ => L
  | .cell c => c
def Loc.has (h : Heap) (v : Value) : Loc → Prop
  | .var L x => ∃ m, h.Ns L m ∧ m x = some v
  | .cell c => h.IsCell c (some v)
def Loc.ok (h : Heap) : Loc → Prop
  | .var L _ => ∃ m, h.Ns L m
  | .cell c => ∃ v, h.IsCell c v
/-- two places that a store keeps apart -/
def Loc.apart : Loc → Loc → Prop
  | .var L x, .var M y => L ≠ M ∨ x ≠ y
  | .var L _, .cell c => L ≠ c
  | .cell c, .var L _ => L ≠ c
  | .cell c, .cell d => c ≠ d

theorem Loc.has.at {h h' : Heap} {v : Value} {l : Loc} (x : l.has h v) (hk : ∀ o, h.get? l.addr = some o → h'.get? l.addr = some o) : l.has h' v := by
  cases l with
  | var L n => obtain ⟨m, ⟨o, es, ep, e, r⟩, q⟩ := x; exact ⟨m, ⟨o, es, ep, hk _ e, r⟩, q⟩
  | cell c => obtain ⟨o, e, r⟩ := x; exact ⟨o, hk _ e, r⟩
theorem Loc.ok.at {h h' : Heap} {l : Loc} (x : l.ok h) (hk : ∀ o, h.get? l.addr = some o → h'.get? l.addr = some o) : l.ok h' := by
  cases l with
  | var L n => obtain ⟨m, ⟨o, es, ep, e, r⟩⟩ := x; exact ⟨m, ⟨o, es, ep, hk _ e, r⟩⟩
  | cell c => obtain ⟨v, ⟨o, e, r⟩⟩ := x; exact ⟨v, ⟨o, hk _ e, r⟩⟩
theorem Loc.ok.lt {h : Heap} {l : Loc} (x : l.ok h) : l.addr < h.objs.size := by
  cases l with
  | var L n => obtain ⟨m, hm⟩ := x; exact hm.lt
  | cell c => obtain ⟨v, hv⟩ := x; exact hv.lt

/-- the frame's relation: slots and places -/
structure FR (φ : List Loc) (h₀ : Heap) (ρ : List Addr) (l : List V) (s : Shared) : Prop where
  len : l.length = φ.length
  ok : ∀ lc ∈ φ, lc.ok s.heap
  has : ∀ (i : Nat) (lc : Loc) (x : V), φ[i]? = some lc → l[i]? = some x → x ≠ .unb → ∃ v, Loc.has s.heap v lc ∧ VR ρ x v
  apart : φ.Pairwise Loc.apart
  nρ : ∀ lc ∈ φ, lc.addr ∉ ρ
  n0 : ∀ lc ∈ φ, h₀.get? lc.addr = none

theorem FR.chg {φ : List Loc} {h₀ : Heap} {ρ ρ' : List Addr} {l : List V} {s s' : Shared} (F : FR φ h₀ ρ l s) (hp : ρ <+: ρ') (hn : ∀ a ∈ ρ', a ∈ ρ ∨ s.heap.objs.size ≤ a)
    (hk : ∀ lc ∈ φ, ∀ o, s.heap.get? lc.addr = some o → s'.heap.get? lc.addr = some o) : FR φ h₀ ρ' l s' :=
  ⟨F.len, fun lc h => (F.ok lc h).at (hk lc h), fun i lc x e1 e2 hx => let ⟨v, hv, hr⟩ := F.has i lc x e1 e2 hx; ⟨v, hv.at (hk lc (List.mem_of_getElem? e1)), hr.mono hp⟩, F.apart,
    fun lc h hm => (hn _ hm).elim (F.nρ lc h) fun q => by exact absurd (F.ok lc h).lt (Nat.not_lt.mpr q), F.n0⟩
theorem FR.ext {φ : List Loc} {h₀ : Heap} {ρ : List Addr} {l : List V} {s s' : Shared} (F : FR φ h₀ ρ l s) (hk : ∀ b o, s.heap.get? b = some o → s'.heap.get? b = some o) : FR φ h₀ ρ l s' :=
  F.chg (List.prefix_refl _) (fun _ h => .inl h) fun lc _ o e => hk _ _ e
theorem FR.add {φ : List Loc} {h₀ : Heap} {ρ : List Addr} {l : List V} {s s' : Shared} {a : Addr} (F : FR φ h₀ ρ l s) (ha : s.heap.objs.size ≤ a) (hk : ∀ b o, s.heap.get? b = some o → s'.heap.get? b = some o) : FR φ h₀ (ρ ++ [a]) l s' :=
  F.chg (List.prefix_append _ _) (fun b h => by rcases List.mem_append.mp h with h | h; exact .inl h; simp at h; subst h; exact .inr ha) fun lc _ o e => hk _ _ e
theorem FR.upd {φ : List Loc} {h₀ : Heap} {ρ : List Addr} {l : List V} {s s' : Shared} {a : Addr} (F : FR φ h₀ ρ l s) (ha : a ∈ ρ) (hk : ∀ b o, b ≠ a → s.heap.get? b = some o → s'.heap.get? b = some o) : FR φ h₀ ρ l s' :=
  F.chg (List.prefix_refl _) (fun _ h => .inl h) fun lc h o e => hk _ _ (fun q => F.nρ lc h (q ▸ ha)) e

/-- both -/
structure SR (W : Wd) (φ : List Loc) (h₀ : Heap) (ρ : List Addr) (l : List V) (H : Hp) (s : Shared) : Prop where
  h : HR W h₀ ρ H s
  f : FR φ h₀ ρ l s
section
variable {W : Wd} {φ : List Loc} {h₀ : Heap} {ρ : List Addr} {l : List V} {H : Hp} {s s' : Shared}
theorem SR.ext (R : SR W φ h₀ ρ l H s) (hk : ∀ b o, s.heap.get? b = some o → s'.heap.get? b = some o) (hos : s'.os = s.os := by rfl) (hg : s'.gens = s.gens := by rfl) : SR W φ h₀ ρ l H s' :=
  ⟨R.h.ext hk hos hg, R.f.ext hk⟩
theorem SR.tok (R : SR W φ h₀ ρ l H s) (t : Nat) : SR W φ h₀ ρ l H { s with toks := t } := R.ext (fun _ _ e => e)
theorem SR.push (R : SR W φ h₀ ρ l H s) (o : Obj) (t : Nat) : SR W φ h₀ ρ l H { s with heap := s.heap.push o, toks := t } :=
  R.ext (fun _ _ e => Heap.get?_push_of_some o e)
theorem SR.add (R : SR W φ h₀ ρ l H s) {a : Addr} {o : Ob} (hk : ∀ b o, s.heap.get? b = some o → s'.heap.get? b = some o) (hnew : s.heap.objs.size ≤ a) (ho : OB W (ρ ++ [a]) s'.heap a o)
    (hos : s'.os = s.os := by rfl) (hg : s'.gens = s.gens := by rfl) : SR W φ h₀ (ρ ++ [a]) l ⟨H.t.put o H.n, H.n.succ⟩ s' :=
  ⟨R.h.add hk hnew ho hos hg, R.f.add hnew hk⟩
theorem SR.upd (R : SR W φ h₀ ρ l H s) {k : Nat} {a : Addr} {o : Ob} (ha : ρ[k]? = some a) (hk : ∀ b o, b ≠ a → s.heap.get? b = some o → s'.heap.get? b = some o) (ho : OB W ρ s'.heap a o)
    (hos : s'.os = s.os := by rfl) (hg : s'.gens = s.gens := by rfl) : SR W φ h₀ ρ l ⟨H.t.put o k, H.n⟩ s' :=
  ⟨R.h.upd ha hk ho hos hg, R.f.upd (List.mem_of_getElem? ha) hk⟩
end

theorem Heap.Ns.uniq {h : Heap} {a : Addr} {m m' : Str → Option Value} (x : h.Ns a m) (y : h.Ns a m') : m = m' := by
  obtain ⟨o, es, ep, e, hd, _, hf⟩ := x
  obtain ⟨o', es', ep', e', hd', _, hf'⟩ := y
  rw [e] at e'; cases e'
  rw [hd] at hd'; cases hd'
  funext n; rw [← hf, ← hf']

/-- a store into a slot -/
theorem FR.set {φ : List Loc} {h₀ : Heap} {ρ : List Addr} {l : List V} {s s' : Shared} (F : FR φ h₀ ρ l s) {i : Nat} {lc : Loc} {x : V} {v : Value} (hi : φ[i]? = some lc) (hv : VR ρ x v)
    (hk : ∀ b o, b ≠ lc.addr → s.heap.get? b = some o → s'.heap.get? b = some o)
    (hm : ∀ L n m, lc = .var L n → s.heap.Ns L m → s'.heap.Ns L (fun y => if y = n then some v else m y)) (hc : ∀ c, lc = .cell c → s'.heap.IsCell c (some v)) : FR φ h₀ ρ (l.set i x) s' := by
  have hlc : lc ∈ φ := List.mem_of_getElem? hi
  have hap : ∀ (j : Nat) (lc' : Loc), φ[j]? = some lc' → j ≠ i → Loc.apart lc' lc ∨ Loc.apart lc lc' := fun j lc' hj hne => by
    obtain ⟨h1, rfl⟩ := List.getElem?_eq_some_iff.mp hj
    obtain ⟨h2, rfl⟩ := List.getElem?_eq_some_iff.mp hi
    rcases Nat.lt_or_gt_of_ne hne with q | q
    · exact .inl (List.pairwise_iff_getElem.mp F.apart j i h1 h2 q)
    · exact .inr (List.pairwise_iff_getElem.mp F.apart i j h2 h1 q)
  have here : lc.ok s'.heap ∧ lc.has s'.heap v := by
    cases lc with
    | var L n => obtain ⟨m, hm'⟩ := F.ok _ hlc; exact ⟨⟨_, hm L n m rfl hm'⟩, ⟨_, hm L n m rfl hm', by simp⟩⟩
    | cell c => exact ⟨⟨_, hc c rfl⟩, hc c rfl⟩
  refine ⟨by simp [F.len], fun lc' h' => ?_, fun j lc' y e1 e2 hy => ?_, F.apart, F.nρ, F.n0⟩
  · by_cases q : lc'.addr = lc.addr
    · cases lc with
      | var L n => cases lc' with
        | var L' n' => obtain ⟨m, hm'⟩ := F.ok _ hlc; have : L' = L := q; subst this; exact ⟨_, hm _ n m rfl hm'⟩
        | cell c' =>
          have : c' = L := q
          subst this
          obtain ⟨m, o, es, ep, e, hd, _⟩ := F.ok _ hlc
          obtain ⟨v', o', e', hd'⟩ := F.ok _ h'
          rw [e] at e'; cases e'; rw [hd] at hd'; cases hd'
      | cell c => cases lc' with
        | var L' n' =>
          have : L' = c := q
          subst this
          obtain ⟨m, o, es, ep, e, hd, _⟩ := F.ok _ h'
          obtain ⟨v', o', e', hd'⟩ := F.ok _ hlc
          rw [e] at e'; cases e'; rw [hd] at hd'; cases hd'
        | cell c' => have : c' = c := q; subst this; exact here.1
    · exact (F.ok lc' h').at fun o e => hk _ _ q e
  · by_cases hj : j = i
    · subst hj
      rw [hi] at e1; cases e1
      rw [List.getElem?_set] at e2
      split at e2
      · split at e2
        · cases e2; exact ⟨v, here.2, hv⟩
        · cases e2
      · contradiction
    · rw [List.getElem?_set_ne (Ne.symm hj)] at e2
      obtain ⟨v', hv', hr⟩ := F.has j lc' y e1 e2 hy
      refine ⟨v', ?_, hr⟩
      have ap := hap j lc' e1 hj
      cases lc with
      | var L n => cases lc' with
        | var L' n' =>
          by_cases q : L' = L
          · subst q
            obtain ⟨m, hm1, hm2⟩ := hv'
            have hne : n' ≠ n := by rcases ap with (a | a) | (a | a) <;> first | exact absurd rfl a | exact a | exact a.symm
            exact ⟨_, hm _ n m rfl hm1, by simp [hne, hm2]⟩
          · exact hv'.at fun o e => hk _ _ q e
        | cell c' => exact hv'.at fun o e => hk _ _ (by rcases ap with a | a <;> first | exact a | exact a.symm) e
      | cell c => cases lc' with
        | var L' n' => exact hv'.at fun o e => hk _ _ (by rcases ap with a | a <;> first | exact a | exact a.symm) e
        | cell c' => exact hv'.at fun o e => hk _ _ (by rcases ap with a | a <;> first | exact a | exact a.symm) e
theorem SR.set {W : Wd} {φ : List Loc} {h₀ : Heap} {ρ : List Addr} {l : List V} {H : Hp} {s s' : Shared} (R : SR W φ h₀ ρ l H s) {i : Nat} {lc : Loc} {x : V} {v : Value} (hi : φ[i]? = some lc) (hv : VR ρ x v)
    (hk : Heap.SameBut lc.addr s.heap s'.heap)
    (hm : ∀ L n m, lc = .var L n → s.heap.Ns L m → s'.heap.Ns L (fun y => if y = n then some v else m y)) (hc : ∀ c, lc = .cell c → s'.heap.IsCell c (some v))
    (hos : s'.os = s.os := by rfl) (hg : s'.gens = s.gens := by rfl) : SR W φ h₀ ρ (l.set i x) H s' :=
  have hlc : lc ∈ φ := List.mem_of_getElem? hi
  ⟨R.h.chg (fun b o hb e => hk.extBut b o (by
      rintro rfl
      rcases hb with hb | hb
      · exact R.f.nρ lc hlc hb
      · rw [R.f.n0 lc hlc] at hb; cases hb) e) hos (hg ▸ R.h.bare),
    R.f.set hi hv hk.extBut hm hc⟩
end Mine
namespace Mine
open PySem PySem.W PyProof.Rows

structure Room (n : Nat) (A : Around) : Prop where
  hd : A.handled = none
  dp : A.depth + 4 * n ≤ 900
  un : A.units + 40 * n ≤ 9000
theorem Room.depth {n : Nat} {A : Around} (r : Room n A) : A.depth < recursionLimit := by
  have h1 := r.dp
  show A.depth < 1000
  omega
theorem Room.units {n : Nat} {A : Around} (r : Room n A) : A.units < cLine := by
  have h1 := r.un
  show A.units < 9900
  omega
theorem Room.less {n m : Nat} {A : Around} (r : Room n A) (h : m ≤ n) : Room m A := ⟨r.hd, by have := r.dp; omega, by have := r.un; omega⟩
theorem Room.deeper {n : Nat} {A : Around} {env : Env} (r : Room (n + 1) A) : Room n (A.deeper env) :=
  ⟨r.hd, by have := r.dp; show A.depth + 1 + 4 * n ≤ 900; omega, by have := r.un; show A.units + 3 + 40 * n ≤ 9000; omega⟩
theorem Room.in1 {n : Nat} {A : Around} (r : Room (n + 1) A) : Room n A.in1 :=
  ⟨r.hd, by have := r.dp; show A.depth + 4 * n ≤ 900; omega, by have := r.un; show A.units + 1 + 40 * n ≤ 9000; omega⟩
theorem Room.under {n : Nat} {A : Around} {c : Code} (r : Room (n + 1) A) (h1 : c.weight ≤ 4) (h2 : c.cUnits ≤ 40) : Room n (A.under c) :=
  ⟨r.hd, by have := r.dp; show A.depth + c.weight + 4 * n ≤ 900; omega, by have := r.un; show A.units + c.cUnits + 40 * n ≤ 9000; omega⟩
theorem Room.mark {n : Nat} {A : Around} (r : Room n A) : Room n (A.mark none) := ⟨by show (none : Option Value).or A.handled = none; rw [r.hd]; rfl, r.dp, r.un⟩

structure Sc where
  sc : Scope
  names : List (Str × Nat)

structure EnvOK (Γ : Sc) (φ : List Loc) (env : Env) : Prop where
  sc : env.scope = Γ.sc
  kind : Γ.sc.kind = .function
  glob : env.globals = mainGlobals
  bi : env.builtins = builtinsNs
  slot : ∀ (x : Str) (i : Nat), Γ.names.lookup x = some i → ∃ lc, φ[i]? = some lc ∧
    ((Γ.sc.names.lookup x = some .local ∧ lc = .var env.locals x) ∨ ((Γ.sc.names.lookup x = some .cell ∨ Γ.sc.names.lookup x = some .free) ∧ ∃ c, env.cells.lookup x = some c ∧ lc = .cell c))

def Post (W : Wd) (φ : List Loc) (h₀ : Heap) (ρ : List Addr) (l : List V) (k : V → Hp → Bool) (Q : Value → Shared → Prop) : Prop :=
  ∀ (v : Value) (x : V) (ρ' : List Addr) (H' : Hp) (s' : Shared), ρ <+: ρ' → SR W φ h₀ ρ' l H' s' → VR ρ' x v → k x H' = true → Q v s'

def Ref (W : Wd) (n : Nat) (Γ : Sc) (e : PySem.Expr) (F : C) : Prop :=
  ∀ (A : Around) (E : Value → Shared → Prop) (s : Shared) (h₀ : Heap) (ρ : List Addr) (φ : List Loc) (env : Env) (l : List V) (H : Hp) (k : K) (Q : Value → Shared → Prop),
    Room n A → EnvOK Γ φ env → SR W φ h₀ ρ l H s → F l H k = true → Post W φ h₀ ρ l k Q → wpAny (model W.prog W.w) A (eval e env) Q E s

def RefB (W : Wd) (n : Nat) (Γ : Sc) (e : PySem.Expr) (F : B) : Prop :=
  ∀ (A : Around) (E : Value → Shared → Prop) (s : Shared) (h₀ : Heap) (ρ : List Addr) (φ : List Loc) (env : Env) (l : List V) (H : Hp) (k : Bool → Hp → Bool) (Q : Bool → Shared → Prop),
    Room n A → EnvOK Γ φ env → SR W φ h₀ ρ l H s → F l H k = true →
    (∀ (b : Bool) (ρ' : List Addr) (H' : Hp) (s' : Shared), ρ <+: ρ' → SR W φ h₀ ρ' l H' s' → k b H' = true → Q b s') → wpAny (model W.prog W.w) A (isTrue e env (eval e env)) Q E s

-- operations on values
def Op1 (W : Wd) (n : Nat) (o : O1) (t : Value → Sem Value) : Prop :=
  ∀ (A : Around) (E : Value → Shared → Prop) (s : Shared) (h₀ : Heap) (ρ : List Addr) (φ : List Loc) (l : List V) (H : Hp) (k : K) (Q : Value → Shared → Prop) (a : Value) (x : V),
    Room n A → SR W φ h₀ ρ l H s → VR ρ x a → o x H k = true → Post W φ h₀ ρ l k Q → wpAny (model W.prog W.w) A (t a) Q E s
def Op2 (W : Wd) (n : Nat) (o : O2) (t : Value → Value → Sem Value) : Prop :=
  ∀ (A : Around) (E : Value → Shared → Prop) (s : Shared) (h₀ : Heap) (ρ : List Addr) (φ : List Loc) (l : List V) (H : Hp) (k : K) (Q : Value → Shared → Prop) (a b : Value) (x y : V),
    Room n A → SR W φ h₀ ρ l H s → VR ρ x a → VR ρ y b → o x y H k = true → Post W φ h₀ ρ l k Q → wpAny (model W.prog W.w) A (t a b) Q E s

theorem Post.mono {W : Wd} {φ : List Loc} {h₀ : Heap} {ρ ρ₁ : List Addr} {l : List V} {k : V → Hp → Bool} {Q : Value → Shared → Prop} (p : Post W φ h₀ ρ l k Q) (h : ρ <+: ρ₁) : Post W φ h₀ ρ₁ l k Q :=
  fun v x ρ' H' s' hp R r e => p v x ρ' H' s' (h.trans hp) R r e
theorem Post.here {W : Wd} {φ : List Loc} {h₀ : Heap} {ρ : List Addr} {l : List V} {k : V → Hp → Bool} {Q : Value → Shared → Prop} (p : Post W φ h₀ ρ l k Q) {v : Value} {x : V} {H : Hp} {s : Shared}
    (R : SR W φ h₀ ρ l H s) (r : VR ρ x v) (e : k x H = true) : Q v s := p v x ρ H s (List.prefix_refl _) R r e

section
variable {W : Wd} {n : Nat} {Γ : Sc}

-- views
theorem asInt_of {v : V} {k : Int → Bool} (h : asInt v k = true) : ∃ i, v = .int i ∧ k i = true := by
  cases v <;> first | (exact ⟨_, rfl, h⟩) | (exact absurd h Bool.false_ne_true)
theorem asStr_of {v : V} {k : Tx → Bool} (h : asStr v k = true) : ∃ i, v = .str i ∧ k i = true := by
  cases v <;> first | (exact ⟨_, rfl, h⟩) | (exact absurd h Bool.false_ne_true)
theorem asRef_of {v : V} {k : Nat → Bool} (h : asRef v k = true) : ∃ i, v = .ref i ∧ k i = true := by
  cases v <;> first | (exact ⟨_, rfl, h⟩) | (exact absurd h Bool.false_ne_true)
theorem asBool_of {v : V} {k : Bool → Bool} (h : asBool v k = true) : ∃ i, v = .bool i ∧ k i = true := by
  cases v <;> first | (exact ⟨_, rfl, h⟩) | (exact absurd h Bool.false_ne_true)
theorem asNat_of {v : V} {k : Nat → Bool} (h : asNat v k = true) : ∃ i : Nat, v = .int i ∧ k i = true := by
  cases v with
  | int i => cases i with
    | ofNat m => exact ⟨m, rfl, h⟩
    | negSucc m => exact absurd h Bool.false_ne_true
  | _ => exact absurd h Bool.false_ne_true
theorem asList_of {v : V} {H : Hp} {k : List V → Bool} (h : asList v H k = true) : ∃ a vs, v = .ref a ∧ H.t.get a = some (.list vs) ∧ k vs = true := by
  obtain ⟨a, rfl, h1⟩ := asRef_of (show asRef v _ = true from h)
  clear h
  cases e : H.t.get a with
  | none => rw [e] at h1; exact absurd h1 Bool.false_ne_true
  | some o =>
    rw [e] at h1
    cases o with
    | list vs => exact ⟨a, vs, rfl, e, h1⟩
    | _ => exact absurd h1 Bool.false_ne_true
theorem asTup_of {v : V} {H : Hp} {k : List V → Bool} (h : asTup v H k = true) : ∃ a vs, v = .ref a ∧ H.t.get a = some (.tup vs) ∧ k vs = true := by
  obtain ⟨a, rfl, h1⟩ := asRef_of (show asRef v _ = true from h)
  clear h
  cases e : H.t.get a with
  | none => rw [e] at h1; exact absurd h1 Bool.false_ne_true
  | some o =>
    rw [e] at h1
    cases o with
    | tup vs => exact ⟨a, vs, rfl, e, h1⟩
    | _ => exact absurd h1 Bool.false_ne_true
theorem asDictE_of {v : V} {H : Hp} {k : Nat → List (Tx × V) → Bool} (h : asDictE v H k = true) : ∃ a ep vs, v = .ref a ∧ H.t.get a = some (.dict ep vs) ∧ k ep vs = true := by
  obtain ⟨a, rfl, h1⟩ := asRef_of (show asRef v _ = true from h)
  clear h
  cases e : H.t.get a with
  | none => rw [e] at h1; exact absurd h1 Bool.false_ne_true
  | some o =>
    rw [e] at h1
    cases o with
    | dict ep vs => exact ⟨a, ep, vs, rfl, e, h1⟩
    | _ => exact absurd h1 Bool.false_ne_true
theorem asDict_of {v : V} {H : Hp} {k : List (Tx × V) → Bool} (h : asDict v H k = true) : ∃ a ep vs, v = .ref a ∧ H.t.get a = some (.dict ep vs) ∧ k vs = true := asDictE_of h
theorem asAcc_of {v : V} {H : Hp} {k : Nat → List V → Bool} (h : asAcc v H k = true) : ∃ a d vs, v = .ref a ∧ H.t.get a = some (.acc d vs) ∧ k d vs = true := by
  obtain ⟨a, rfl, h1⟩ := asRef_of (show asRef v _ = true from h)
  clear h
  cases e : H.t.get a with
  | none => rw [e] at h1; exact absurd h1 Bool.false_ne_true
  | some o =>
    rw [e] at h1
    cases o with
    | acc d vs => exact ⟨a, d, vs, rfl, e, h1⟩
    | _ => exact absurd h1 Bool.false_ne_true
theorem rec_tt {b : Bool} {x y : Bool} (h : @Bool.rec (fun _ => Bool) x y b = true) : (b = true ∧ y = true) ∨ (b = false ∧ x = true) := by
  cases b
  · exact .inr ⟨rfl, h⟩
  · exact .inl ⟨rfl, h⟩

-- names and constants
theorem cVar_of {l : List V} {i : Nat} {H : Hp} {k : K} (h : cVar i l H k = true) : ∃ x, l[i]? = some x ∧ x ≠ .unb ∧ k x H = true := by
  unfold cVar at h
  rw [nthV_eq] at h
  cases e : l[i]? with
  | none => rw [List.getD_eq_getElem?_getD, e] at h; exact absurd h Bool.false_ne_true
  | some x =>
    rw [List.getD_eq_getElem?_getD, e] at h
    refine ⟨x, rfl, ?_, ?_⟩
    · rintro rfl; exact absurd h Bool.false_ne_true
    · cases x <;> first | exact h | exact absurd h Bool.false_ne_true

theorem load_slot {A : Around} {E : Value → Shared → Prop} {s : Shared} {φ : List Loc} {env : Env} {h₀ : Heap} {ρ : List Addr} {l : List V} {x : Str} {i : Nat} {y : V} {Q : Value → Shared → Prop}
    (hE : EnvOK Γ φ env) (F : FR φ h₀ ρ l s) (hx : Γ.names.lookup x = some i) (hl : l[i]? = some y) (hy : y ≠ .unb) (hc : (x == ("__classdict__" : Str)) = false) (h : ∀ v, VR ρ y v → Q v s) :
    wpAny (model W.prog W.w) A (loadName env x) Q E s := by
  obtain ⟨lc, hi, hlc⟩ := hE.slot x i hx
  obtain ⟨v, hv, hr⟩ := F.has i lc y hi hl hy
  have hk : env.scope.kind = .function := by rw [hE.sc]; exact hE.kind
  rcases hlc with ⟨h1, rfl⟩ | ⟨h1, c, h2, rfl⟩
  · obtain ⟨m, hm, hmx⟩ := hv
    exact wpAny_loadName_local hk (by show env.scope.names.lookup x = _; rw [hE.sc]; exact h1) hm hmx (h v hr)
  · rcases h1 with h1 | h1
    · exact wpAny_loadName_cell hk (by show env.scope.names.lookup x = _; rw [hE.sc]; exact h1) h2 hv (h v hr)
    · have hkn : env.kindOf x = some .free := by show env.scope.names.lookup x = _; rw [hE.sc]; exact h1
      unfold loadName
      simp only [Env.blockKind, hk, hkn, ScopeKind.isAnnotationScope, Bool.false_and, Bool.false_eq_true, if_false, hc]
      exact wpAny_bind (wpAny_cellOf h2 (wpAny_bind (wpAny_cellGet hv (wpAny_pure (h v hr)))))

theorem Ref.var {x : Str} {i : Nat} {pos : Pos} (hx : Γ.names.lookup x = some i) (hd : (x == ("__debug__" : Str)) = false := by decide +kernel) (hc : (x == ("__classdict__" : Str)) = false := by decide +kernel) : Ref W n Γ (.Name x pos) (cVar i) := by
  intro A E s h₀ ρ φ env l H k Q hR hE R h hP
  obtain ⟨y, hl, hy, hk⟩ := cVar_of h
  exact wpAny_Name (load_slot hE R.f hx hl hy hc fun v hv => hP.here R hv hk) hd
theorem Ref.int {i : Int} {k : Nat} {pos : Pos} : Ref W n Γ (.Constant (.int i) k pos) (cVal (.int i)) := by
  intro A E s h₀ ρ φ env l H k Q hR hE R h hP
  exact wpAny_Constant_int (hP.here (x := .int i) (R.tok _) ⟨_, rfl⟩ h)
theorem Ref.str {x : Str} {t : Tx} {k : Nat} {pos : Pos} (hx : x = toStr t := by decide +kernel) : Ref W n Γ (.Constant (.str x) k pos) (cVal (.str t)) := by
  intro A E s h₀ ρ φ env l H k Q hR hE R h hP
  subst hx
  show wpAny _ A (mkText _) Q E s
  exact wpAny_mkText (hP.here (x := .str t) (R.tok _) ⟨_, rfl⟩ h)
theorem Ref.cnone {k : Nat} {pos : Pos} : Ref W n Γ (.Constant .none k pos) (cVal .none) := by
  intro A E s h₀ ρ φ env l H k Q hR hE R h hP
  exact wpAny_pure (hP.here (x := .none) R rfl h)
theorem Ref.bool {b : Bool} {k : Nat} {pos : Pos} : Ref W n Γ (.Constant (.bool b) k pos) (cVal (.bool b)) := by
  intro A E s h₀ ρ φ env l H k Q hR hE R h hP
  exact wpAny_pure (hP.here (x := .bool b) R rfl h)
theorem Ref.neg {i j : Int} {k : Nat} {p pos : Pos} (h : j = -i := by decide +kernel) : Ref W n Γ (.UnaryOp .USub (.Constant (.int i) k p) pos) (cVal (.int j)) := by
  intro A E s h₀ ρ φ env l H k Q hR hE R hh hP
  subst h
  refine wpAny_UnaryOp (wpAny_Constant_int (P.neg_int ?_))
  exact hP.here (x := .int (-i)) ((R.tok _).tok _) ⟨_, rfl⟩ hh

theorem Ref.bin {a b : PySem.Expr} {F G : C} {o : O2} {op : Operator} {pos : Pos} (ho : Op2 W n o (binaryOp op)) (ha : Ref W n Γ a F) (hb : Ref W n Γ b G) : Ref W n Γ (.BinOp a op b pos) (cOp2 o F G) := by
  intro A E s h₀ ρ φ env l H k Q hR hE R h hP
  refine wpAny_BinOp (ha A E s h₀ ρ φ env l H _ _ hR hE R h fun v x ρ₁ H₁ s₁ p₁ R₁ r₁ h₁ => ?_)
  refine hb A E s₁ h₀ ρ₁ φ env l H₁ _ _ hR hE R₁ h₁ fun w y ρ₂ H₂ s₂ p₂ R₂ r₂ h₂ => ?_
  exact ho A E s₂ h₀ ρ₂ φ l H₂ k Q v w x y hR R₂ (r₁.mono p₂) r₂ h₂ (hP.mono (p₁.trans p₂))
theorem Ref.cmp {a b : PySem.Expr} {F G : C} {o : O2} {op : CmpOp} {pos : Pos} (ho : Op2 W n o (compareOp op)) (ha : Ref W n Γ a F) (hb : Ref W n Γ b G) (hm : behindInMarks op b = false := by with_unfolding_all rfl) :
    Ref W n Γ (.Compare a [op] [b] pos) (cOp2 o F G) := by
  intro A E s h₀ ρ φ env l H k Q hR hE R h hP
  refine wpAny_Compare1 (ha A E s h₀ ρ φ env l H _ _ hR hE R h fun v x ρ₁ H₁ s₁ p₁ R₁ r₁ h₁ => ?_) hm
  refine hb A E s₁ h₀ ρ₁ φ env l H₁ _ _ hR hE R₁ h₁ fun w y ρ₂ H₂ s₂ p₂ R₂ r₂ h₂ => ?_
  exact ho A E s₂ h₀ ρ₂ φ l H₂ k Q v w x y hR R₂ (r₁.mono p₂) r₂ h₂ (hP.mono (p₁.trans p₂))
theorem bC_k {k : Bool → Hp → Bool} {x : V} {H : Hp} (h : (match x with | .bool b => k b H | _ => false) = true) : ∃ b, x = .bool b ∧ k b H = true := by
  cases x <;> first | exact ⟨_, rfl, h⟩ | exact absurd h Bool.false_ne_true
theorem RefB.cmp {a b : PySem.Expr} {F G : C} {o : O2} {op : CmpOp} {pos : Pos} (ho : Op2 W n o (compareOp op)) (ha : Ref W n Γ a F) (hb : Ref W n Γ b G) (hm : behindInMarks op b = false := by with_unfolding_all rfl) :
    RefB W n Γ (.Compare a [op] [b] pos) (bC (cOp2 o F G)) := by
  intro A E s h₀ ρ φ env l H k Q hR hE R h hP
  refine wpAny_isTrue_Compare1 (ha A E s h₀ ρ φ env l H _ _ hR hE R h fun v x ρ₁ H₁ s₁ p₁ R₁ r₁ h₁ => ?_) hm
  refine hb A E s₁ h₀ ρ₁ φ env l H₁ _ _ hR hE R₁ h₁ fun w y ρ₂ H₂ s₂ p₂ R₂ r₂ h₂ => ?_
  refine ho A E s₂ h₀ ρ₂ φ l H₂ _ _ v w x y hR R₂ (r₁.mono p₂) r₂ h₂ fun c z ρ₃ H₃ s₃ p₃ R₃ r₃ h₃ => ?_
  obtain ⟨b, rfl, hk⟩ := bC_k h₃
  cases r₃
  exact wpAny_truthy_bool (hP b ρ₃ H₃ s₃ ((p₁.trans p₂).trans p₃) R₃ hk)
/-- any other test: its value, and the value is a bool -/
theorem RefB.val {e : PySem.Expr} {F : C} (ha : Ref W n Γ e F) (he : ∀ (env : Env) (t : Sem Value), isTrue e env t = (do let v ← t; standAt e.pos; holding [v] (truthy v)) := by intro _ _; rfl) : RefB W n Γ e (bC F) := by
  intro A E s h₀ ρ φ env l H k Q hR hE R h hP
  rw [he]
  refine wpAny_bind (ha A E s h₀ ρ φ env l H _ _ hR hE R h fun v x ρ₁ H₁ s₁ p₁ R₁ r₁ h₁ => ?_)
  obtain ⟨b, rfl, hk⟩ := bC_k h₁
  cases r₁
  exact wpAny_bind (wpAny_standAt (wpAny_holding (wpAny_truthy_bool (hP b ρ₁ H₁ s₁ p₁ R₁ hk))))
theorem RefB.not {e : PySem.Expr} {F : B} {pos : Pos} (ha : RefB W n Γ e F) : RefB W n Γ (.UnaryOp .Not e pos) (bNot F) := by
  intro A E s h₀ ρ φ env l H k Q hR hE R h hP
  exact wpAny_isTrue_Not (ha A E s h₀ ρ φ env l H _ _ hR hE R h fun b ρ₁ H₁ s₁ p₁ R₁ h₁ => hP _ ρ₁ H₁ s₁ p₁ R₁ h₁)
theorem RefB.and {a b : PySem.Expr} {F G : B} {pos : Pos} (ha : RefB W n Γ a F) (hb : RefB W n Γ b G) : RefB W n Γ (.BoolOp .And [a, b] pos) (bAnd F G) := by
  intro A E s h₀ ρ φ env l H k Q hR hE R h hP
  show wpAny _ A (do
    match BoolOp.And, ← isTrue a env (eval a env) with
    | .And, false => pure false
    | .Or, true => pure true
    | _, _ => (do
      match BoolOp.And, ← isTrue b env (eval b env) with
      | .And, false => pure false
      | .Or, true => pure true
      | _, _ => pure (BoolOp.And == .And))) Q E s
  refine wpAny_bind (ha A E s h₀ ρ φ env l H _ _ hR hE R h fun c ρ₁ H₁ s₁ p₁ R₁ h₁ => ?_)
  cases c with
  | false => exact wpAny_pure (hP _ ρ₁ H₁ s₁ p₁ R₁ h₁)
  | true =>
    refine wpAny_bind (hb A E s₁ h₀ ρ₁ φ env l H₁ _ _ hR hE R₁ h₁ fun d ρ₂ H₂ s₂ p₂ R₂ h₂ => ?_)
    cases d <;> exact wpAny_pure (hP _ ρ₂ H₂ s₂ (p₁.trans p₂) R₂ h₂)
theorem RefB.or {a b : PySem.Expr} {F G : B} {pos : Pos} (ha : RefB W n Γ a F) (hb : RefB W n Γ b G) : RefB W n Γ (.BoolOp .Or [a, b] pos) (bOr F G) := by
  intro A E s h₀ ρ φ env l H k Q hR hE R h hP
  show wpAny _ A (do
    match BoolOp.Or, ← isTrue a env (eval a env) with
    | .And, false => pure false
    | .Or, true => pure true
    | _, _ => (do
      match BoolOp.Or, ← isTrue b env (eval b env) with
      | .And, false => pure false
      | .Or, true => pure true
      | _, _ => pure (BoolOp.Or == .And))) Q E s
  refine wpAny_bind (ha A E s h₀ ρ φ env l H _ _ hR hE R h fun c ρ₁ H₁ s₁ p₁ R₁ h₁ => ?_)
  cases c with
  | true => exact wpAny_pure (hP _ ρ₁ H₁ s₁ p₁ R₁ h₁)
  | false =>
    refine wpAny_bind (hb A E s₁ h₀ ρ₁ φ env l H₁ _ _ hR hE R₁ h₁ fun d ρ₂ H₂ s₂ p₂ R₂ h₂ => ?_)
    cases d <;> exact wpAny_pure (hP _ ρ₂ H₂ s₂ (p₁.trans p₂) R₂ h₂)
theorem Ref.ifexp {t a b : PySem.Expr} {T : B} {F G : C} {pos : Pos} (ht : RefB W n Γ t T) (ha : Ref W n Γ a F) (hb : Ref W n Γ b G) : Ref W n Γ (.IfExp t a b pos) (cIf T F G) := by
  intro A E s h₀ ρ φ env l H k Q hR hE R h hP
  refine wpAny_IfExp (ht A E s h₀ ρ φ env l H _ _ hR hE R h fun c ρ₁ H₁ s₁ p₁ R₁ h₁ => ?_)
  cases c with
  | true => exact ha A E s₁ h₀ ρ₁ φ env l H₁ _ _ hR hE R₁ h₁ (hP.mono p₁)
  | false => exact hb A E s₁ h₀ ρ₁ φ env l H₁ _ _ hR hE R₁ h₁ (hP.mono p₁)
/-- several expressions in order -/
inductive Refs (W : Wd) (n : Nat) (Γ : Sc) : List PySem.Expr → List C → Prop
  | nil : Refs W n Γ [] []
  | cons {e : PySem.Expr} {F : C} {es : List PySem.Expr} {Fs : List C} (he : Ref W n Γ e F) (hs : ∀ (rest : List PySem.Expr) (env : Env), starEach (e :: rest) env = (false, eval e env) :: starEach rest env) (h : Refs W n Γ es Fs) : Refs W n Γ (e :: es) (F :: Fs)
def Posts (W : Wd) (φ : List Loc) (h₀ : Heap) (ρ : List Addr) (l : List V) (k : List V → Hp → Bool) (Q : List Value → Shared → Prop) : Prop :=
  ∀ (v : List Value) (x : List V) (ρ' : List Addr) (H' : Hp) (s' : Shared), ρ <+: ρ' → SR W φ h₀ ρ' l H' s' → VRs ρ' x v → k x H' = true → Q v s'
theorem Refs.spliced {es : List PySem.Expr} {Fs : List C} (r : Refs W n Γ es Fs) {pos : Pos} : ∀ {A : Around} {E : Value → Shared → Prop} {s : Shared} {h₀ : Heap} {ρ : List Addr} {φ : List Loc} {env : Env} {l : List V} {H : Hp} {k : List V → Hp → Bool} {Q : List Value → Shared → Prop},
    Room n A → EnvOK Γ φ env → SR W φ h₀ ρ l H s → evs Fs l H k = true → Posts W φ h₀ ρ l k Q → wpAny (model W.prog W.w) A (PySem.spliced (backTo pos (starEach es env))) Q E s := by
  induction r with
  | nil =>
    intro A E s h₀ ρ φ env l H k Q hR hE R h hP
    exact wpAny_pure (hP [] [] ρ H s (List.prefix_refl _) R trivial h)
  | @cons e F es Fs he hs hr ih =>
    intro A E s h₀ ρ φ env l H k Q hR hE R h hP
    refine PyProof.Rows.spliced_more (he A E s h₀ ρ φ env l H _ _ hR hE R h fun v x ρ₁ H₁ s₁ p₁ R₁ r₁ h₁ => ?_) (hs es env)
    refine ih hR hE R₁ h₁ fun vs xs ρ₂ H₂ s₂ p₂ R₂ r₂ h₂ => ?_
    exact hP (v :: vs) (x :: xs) ρ₂ H₂ s₂ (p₁.trans p₂) R₂ ⟨r₁.mono p₂, r₂⟩ h₂
end
end Mine
namespace Mine
open PySem PySem.W PyProof.Rows
section
variable {W : Wd} {n : Nat}

theorem chk_of {b r : Bool} (h : chk b r = true) : b = true ∧ r = true := by
  cases b
  · exact absurd h Bool.false_ne_true
  · exact ⟨rfl, h⟩
theorem ltZ_iff (a b : Int) : ltZ a b = true ↔ a < b := PySem.W.Z.ltB_iff a b
theorem leZ_iff (a b : Int) : leZ a b = true ↔ a ≤ b := PySem.W.Z.leB_iff a b
theorem eqZ_iff (a b : Int) : eqZ a b = true ↔ a = b := PySem.W.Z.eqB_iff a b
theorem bool_eq {a b : Bool} (h : a = true ↔ b = true) : a = b := by cases a <;> cases b <;> simp_all
theorem ltZ_eq (a b : Int) : ltZ a b = decide (a < b) := bool_eq (by rw [ltZ_iff]; simp)
theorem leZ_eq (a b : Int) : leZ a b = decide (a ≤ b) := bool_eq (by rw [leZ_iff]; simp)
theorem eqZ_eq (a b : Int) : eqZ a b = (a == b) := bool_eq (by rw [eqZ_iff]; simp)

theorem op_addI : Op2 W n oAddI (binaryOp .Add) := by
  intro A E s h₀ ρ φ l H k Q a b x y hR R ra rb h hP
  obtain ⟨i, rfl, h'⟩ := asInt_of h; clear h; have h := h'; clear h'; obtain ⟨j, rfl, h'⟩ := asInt_of h; clear h; have h := h'; clear h'
  obtain ⟨t, rfl⟩ := ra; obtain ⟨u, rfl⟩ := rb
  exact wpAny_add_int (hP.here (x := .int (i + j)) (R.tok _) ⟨_, rfl⟩ h)
theorem op_iaddI : Op2 W n oAddI (inplaceOp .Add) := by
  intro A E s h₀ ρ φ l H k Q a b x y hR R ra rb h hP
  obtain ⟨i, rfl, h'⟩ := asInt_of h; clear h; have h := h'; clear h'; obtain ⟨j, rfl, h'⟩ := asInt_of h; clear h; have h := h'; clear h'
  obtain ⟨t, rfl⟩ := ra; obtain ⟨u, rfl⟩ := rb
  exact wpAny_iadd_int (hP.here (x := .int (i + j)) (R.tok _) ⟨_, rfl⟩ h)
theorem op_subI : Op2 W n oSubI (binaryOp .Sub) := by
  intro A E s h₀ ρ φ l H k Q a b x y hR R ra rb h hP
  obtain ⟨i, rfl, h'⟩ := asInt_of h; clear h; have h := h'; clear h'; obtain ⟨j, rfl, h'⟩ := asInt_of h; clear h; have h := h'; clear h'
  obtain ⟨t, rfl⟩ := ra; obtain ⟨u, rfl⟩ := rb
  exact PyProof.Rows.sub_int' (hP.here (x := .int (i - j)) (R.tok _) ⟨_, rfl⟩ h)
theorem op_isubI : Op2 W n oSubI (inplaceOp .Sub) := by
  intro A E s h₀ ρ φ l H k Q a b x y hR R ra rb h hP
  obtain ⟨i, rfl, h'⟩ := asInt_of h; clear h; have h := h'; clear h'; obtain ⟨j, rfl, h'⟩ := asInt_of h; clear h; have h := h'; clear h'
  obtain ⟨t, rfl⟩ := ra; obtain ⟨u, rfl⟩ := rb
  exact PyProof.Rows.isub_int (hP.here (x := .int (i - j)) (R.tok _) ⟨_, rfl⟩ h)
theorem op_mulI : Op2 W n oMulI (binaryOp .Mult) := by
  intro A E s h₀ ρ φ l H k Q a b x y hR R ra rb h hP
  obtain ⟨i, rfl, h'⟩ := asNat_of h; clear h; have h := h'; clear h'; obtain ⟨j, rfl, h'⟩ := asInt_of h; clear h; have h := h'; clear h'
  obtain ⟨t, rfl⟩ := ra; obtain ⟨u, rfl⟩ := rb
  obtain ⟨hc, h⟩ := chk_of h
  have hi := PySem.W.Z.blt_iff.mp hc
  exact PyProof.Rows.mul_int (hP.here (x := .int ((i : Int) * j)) (R.tok _) ⟨_, rfl⟩ h) (IntMulOk.of_left (intBits_le_64 (by omega) (by omega)))
theorem op_divI : Op2 W n oDivI (binaryOp .FloorDiv) := by
  intro A E s h₀ ρ φ l H k Q a b x y hR R ra rb h hP
  obtain ⟨i, rfl, h'⟩ := asInt_of h; clear h; have h := h'; clear h'; obtain ⟨j, rfl, h'⟩ := asNat_of h; clear h; have h := h'; clear h'
  obtain ⟨t, rfl⟩ := ra; obtain ⟨u, rfl⟩ := rb
  obtain ⟨hc, h⟩ := chk_of h
  obtain ⟨hd, h⟩ := chk_of h
  have h1 := PySem.W.Z.blt_iff.mp hc
  have h2 := PySem.W.Z.blt_iff.mp hd
  exact PyProof.Rows.floordiv_int (by omega) (hP.here (x := .int (i.fdiv (j : Int))) (R.tok _) ⟨_, rfl⟩ h) (.inl (PyProof.noPylong_small (by omega)))
theorem op_modI : Op2 W n oModI (binaryOp .Mod) := by
  intro A E s h₀ ρ φ l H k Q a b x y hR R ra rb h hP
  obtain ⟨i, rfl, h'⟩ := asInt_of h; clear h; have h := h'; clear h'; obtain ⟨j, rfl, h'⟩ := asNat_of h; clear h; have h := h'; clear h'
  obtain ⟨t, rfl⟩ := ra; obtain ⟨u, rfl⟩ := rb
  obtain ⟨hc, h⟩ := chk_of h
  have h1 := PySem.W.Z.blt_iff.mp hc
  exact PyProof.Rows.mod_int' (by omega) (hP.here (x := .int (i.fmod (j : Int))) (R.tok _) ⟨_, rfl⟩ h)
theorem op_powI : Op2 W n oPowI (binaryOp .Pow) := by
  intro A E s h₀ ρ φ l H k Q a b x y hR R ra rb h hP
  obtain ⟨i, rfl, h'⟩ := asNat_of h; clear h; have h := h'; clear h'; obtain ⟨j, rfl, h'⟩ := asNat_of h; clear h; have h := h'; clear h'
  obtain ⟨t, rfl⟩ := ra; obtain ⟨u, rfl⟩ := rb
  obtain ⟨hc, h⟩ := chk_of h
  obtain ⟨hd, h⟩ := chk_of h
  have h1 := PySem.W.Z.blt_iff.mp hc
  have h2 := PySem.W.Z.blt_iff.mp hd
  refine PyProof.Rows.pow_int_small (by omega) (by omega) (by omega) ?_
  exact hP.here (x := .int ((i ^ j : Nat) : Int)) (R.tok _) ⟨s.toks, by simp⟩ h
theorem op_ltI : Op2 W n oLtI (compareOp .Lt) := by
  intro A E s h₀ ρ φ l H k Q a b x y hR R ra rb h hP
  obtain ⟨i, rfl, h'⟩ := asInt_of h; clear h; have h := h'; clear h'; obtain ⟨j, rfl, h'⟩ := asInt_of h; clear h; have h := h'; clear h'
  obtain ⟨t, rfl⟩ := ra; obtain ⟨u, rfl⟩ := rb
  exact PySem.P.lt_int (hP.here (x := .bool (ltZ i j)) R (by rw [ltZ_eq]; rfl) h)
theorem op_leI : Op2 W n oLeI (compareOp .LtE) := by
  intro A E s h₀ ρ φ l H k Q a b x y hR R ra rb h hP
  obtain ⟨i, rfl, h'⟩ := asInt_of h; clear h; have h := h'; clear h'; obtain ⟨j, rfl, h'⟩ := asInt_of h; clear h; have h := h'; clear h'
  obtain ⟨t, rfl⟩ := ra; obtain ⟨u, rfl⟩ := rb
  exact PySem.P.le_int (hP.here (x := .bool (leZ i j)) R (by rw [leZ_eq]; rfl) h)
theorem op_gtI : Op2 W n oGtI (compareOp .Gt) := by
  intro A E s h₀ ρ φ l H k Q a b x y hR R ra rb h hP
  obtain ⟨i, rfl, h'⟩ := asInt_of h; clear h; have h := h'; clear h'; obtain ⟨j, rfl, h'⟩ := asInt_of h; clear h; have h := h'; clear h'
  obtain ⟨t, rfl⟩ := ra; obtain ⟨u, rfl⟩ := rb
  exact PySem.P.gt_int (hP.here (x := .bool (ltZ j i)) R (by rw [ltZ_eq]; rfl) h)
theorem op_geI : Op2 W n oGeI (compareOp .GtE) := by
  intro A E s h₀ ρ φ l H k Q a b x y hR R ra rb h hP
  obtain ⟨i, rfl, h'⟩ := asInt_of h; clear h; have h := h'; clear h'; obtain ⟨j, rfl, h'⟩ := asInt_of h; clear h; have h := h'; clear h'
  obtain ⟨t, rfl⟩ := ra; obtain ⟨u, rfl⟩ := rb
  exact PySem.P.ge_int (hP.here (x := .bool (leZ j i)) R (by rw [leZ_eq]; rfl) h)
theorem op_eqI : Op2 W n oEqI (compareOp .Eq) := by
  intro A E s h₀ ρ φ l H k Q a b x y hR R ra rb h hP
  obtain ⟨i, rfl, h'⟩ := asInt_of h; clear h; have h := h'; clear h'; obtain ⟨j, rfl, h'⟩ := asInt_of h; clear h; have h := h'; clear h'
  obtain ⟨t, rfl⟩ := ra; obtain ⟨u, rfl⟩ := rb
  exact PySem.P.eq_int (hP.here (x := .bool (eqZ i j)) R (by rw [eqZ_eq]; rfl) h)
theorem op_neI : Op2 W n oNeI (compareOp .NotEq) := by
  intro A E s h₀ ρ φ l H k Q a b x y hR R ra rb h hP
  obtain ⟨i, rfl, h'⟩ := asInt_of h; clear h; have h := h'; clear h'; obtain ⟨j, rfl, h'⟩ := asInt_of h; clear h; have h := h'; clear h'
  obtain ⟨t, rfl⟩ := ra; obtain ⟨u, rfl⟩ := rb
  exact PySem.P.ne_int (hP.here (x := .bool (!eqZ i j)) R (by rw [eqZ_eq]; rfl) h)

-- texts
theorem eqT_iff : ∀ (a b : Tx), eqT a b = true ↔ a = b
  | [], [] => ⟨fun _ => rfl, fun _ => rfl⟩
  | [], _ :: _ => ⟨fun h => absurd h Bool.false_ne_true, fun h => nomatch h⟩
  | _ :: _, [] => ⟨fun h => absurd h Bool.false_ne_true, fun h => nomatch h⟩
  | x :: xs, y :: ys => by
    show @Bool.rec (fun _ => Bool) false (eqT xs ys) (Nat.beq x y) = true ↔ _
    cases h : Nat.beq x y with
    | true => have := Nat.eq_of_beq_eq_true h; subst this; rw [List.cons.injEq]; exact (eqT_iff xs ys).trans ⟨fun q => ⟨rfl, q⟩, fun q => q.2⟩
    | false => exact ⟨fun q => absurd q Bool.false_ne_true, fun q => by cases q; exact absurd (Nat.beq_refl x) (by rw [h]; exact Bool.false_ne_true)⟩
theorem eqT_eq (a b : Tx) : eqT a b = (a == b) := bool_eq (by rw [eqT_iff]; simp)
theorem ltT_iff : ∀ (a b : Tx), ltT a b = true ↔ a < b
  | [], [] => ⟨fun h => absurd h Bool.false_ne_true, fun h => absurd h (by simp)⟩
  | [], _ :: _ => ⟨fun _ => by simp, fun _ => rfl⟩
  | _ :: _, [] => ⟨fun h => absurd h Bool.false_ne_true, fun h => absurd h (by simp)⟩
  | x :: xs, y :: ys => by
    show @Bool.rec (fun _ => Bool) (@Bool.rec (fun _ => Bool) false (ltT xs ys) (Nat.beq x y)) true (Nat.blt x y) = true ↔ _
    rw [List.cons_lt_cons_iff]
    cases h : Nat.blt x y with
    | true => exact ⟨fun _ => .inl (PySem.W.Z.blt_iff.mp h), fun _ => rfl⟩
    | false =>
      have hn : ¬ x < y := fun q => by rw [PySem.W.Z.blt_iff.mpr q] at h; cases h
      cases h2 : Nat.beq x y with
      | true => have := Nat.eq_of_beq_eq_true h2; exact (ltT_iff xs ys).trans ⟨fun q => .inr ⟨this, q⟩, fun q => q.elim (fun r => absurd r hn) fun r => r.2⟩
      | false => exact ⟨fun q => absurd q Bool.false_ne_true, fun q => q.elim (fun r => absurd r hn) fun r => absurd r.1 (Nat.ne_of_beq_eq_false h2)⟩
theorem ltT_eq (a b : Tx) : ltT a b = decide (a < b) := bool_eq (by rw [ltT_iff]; simp)
theorem op_eqS : Op2 W n oEqS (compareOp .Eq) := by
  intro A E s h₀ ρ φ l H k Q a b x y hR R ra rb h hP
  obtain ⟨i, rfl, h'⟩ := asStr_of h; clear h; have h := h'; clear h'; obtain ⟨j, rfl, h'⟩ := asStr_of h; clear h; have h := h'; clear h'
  obtain ⟨t, rfl⟩ := ra; obtain ⟨u, rfl⟩ := rb
  exact PySem.P.eq_str (hP.here (x := .bool (eqT i j)) R (by rw [eqT_eq]; rfl) h)
theorem op_neS : Op2 W n oNeS (compareOp .NotEq) := by
  intro A E s h₀ ρ φ l H k Q a b x y hR R ra rb h hP
  obtain ⟨i, rfl, h'⟩ := asStr_of h; clear h; have h := h'; clear h'; obtain ⟨j, rfl, h'⟩ := asStr_of h; clear h; have h := h'; clear h'
  obtain ⟨t, rfl⟩ := ra; obtain ⟨u, rfl⟩ := rb
  exact PySem.P.ne_str (hP.here (x := .bool (!eqT i j)) R (by rw [eqT_eq]; rfl) h)
theorem op_ltS : Op2 W n oLtS (compareOp .Lt) := by
  intro A E s h₀ ρ φ l H k Q a b x y hR R ra rb h hP
  obtain ⟨i, rfl, h'⟩ := asStr_of h; clear h; have h := h'; clear h'; obtain ⟨j, rfl, h'⟩ := asStr_of h; clear h; have h := h'; clear h'
  obtain ⟨t, rfl⟩ := ra; obtain ⟨u, rfl⟩ := rb
  exact PySem.P.lt_str (hP.here (x := .bool (ltT i j)) R (by rw [ltT_eq]; rfl) h)
theorem op_gtS : Op2 W n oGtS (compareOp .Gt) := by
  intro A E s h₀ ρ φ l H k Q a b x y hR R ra rb h hP
  obtain ⟨i, rfl, h'⟩ := asStr_of h; clear h; have h := h'; clear h'; obtain ⟨j, rfl, h'⟩ := asStr_of h; clear h; have h := h'; clear h'
  obtain ⟨t, rfl⟩ := ra; obtain ⟨u, rfl⟩ := rb
  exact PySem.P.gt_str (hP.here (x := .bool (ltT j i)) R (by rw [ltT_eq]; rfl) h)
theorem toStr_len (x : Tx) : (toStr x).length = x.length := by simp [Str.length]
theorem toStr_app (x y : Tx) : toStr x ++ toStr y = toStr (x ++ y) := by
  show (⟨x.toArray ++ y.toArray⟩ : Str) = _
  simp
theorem op_addS : Op2 W n oAddS (binaryOp .Add) := by
  intro A E s h₀ ρ φ l H k Q a b x y hR R ra rb h hP
  obtain ⟨i, rfl, h'⟩ := asStr_of h; clear h; have h := h'; clear h'; obtain ⟨j, rfl, h'⟩ := asStr_of h; clear h; have h := h'; clear h'
  obtain ⟨t, rfl⟩ := ra; obtain ⟨u, rfl⟩ := rb
  obtain ⟨hc, h⟩ := chk_of h
  have hz := PySem.W.Z.ble_iff.mp hc
  rw [lenL_eq, lenL_eq] at hz
  rw [appL_eq] at h
  refine PySem.P.add_str ?_
  split
  · rename_i h0
    have : i = [] := by rw [beq_iff_eq, toStr_len] at h0; exact List.eq_nil_of_length_eq_zero h0
    subst this
    exact hP.here (x := .str j) R ⟨_, rfl⟩ h
  · split
    · rename_i h0
      have : j = [] := by rw [beq_iff_eq, toStr_len] at h0; exact List.eq_nil_of_length_eq_zero h0
      subst this
      rw [List.append_nil] at h
      exact hP.here (x := .str i) R ⟨_, rfl⟩ h
    · rw [toStr_app]
      exact ⟨by rw [toStr_len, sizeLine_eq, List.length_append]; omega, hP.here (x := .str (i ++ j)) (R.tok _) ⟨_, rfl⟩ h⟩
end
end Mine
namespace Mine
open PySem PySem.W PyProof.Rows
section
variable {W : Wd} {n : Nat} {Γ : Sc}

-- what is held
theorem HR.listAt {h₀ : Heap} {ρ : List Addr} {H : Hp} {s : Shared} (R : HR W h₀ ρ H s) {k : Nat} {vs : List V} {v : Value} (e : H.t.get k = some (.list vs)) (r : VR ρ (.ref k) v) :
    ∃ a items, v = .ref a ∧ ρ[k]? = some a ∧ s.heap.PlainList a items.toArray ∧ VRs ρ vs items := by
  obtain ⟨a, ha, items, hp, hv⟩ := R.obj k _ e
  obtain ⟨b, hb, rfl⟩ := r
  rw [ha] at hb; cases hb
  exact ⟨a, items, rfl, ha, hp, hv⟩
theorem HR.tupAt {h₀ : Heap} {ρ : List Addr} {H : Hp} {s : Shared} (R : HR W h₀ ρ H s) {k : Nat} {vs : List V} {v : Value} (e : H.t.get k = some (.tup vs)) (r : VR ρ (.ref k) v) :
    ∃ a items, v = .ref a ∧ ρ[k]? = some a ∧ (∃ n, s.heap.get? a = some { cls := .type "tuple", data := .seq items.toArray n }) ∧ VRs ρ vs items := by
  obtain ⟨a, ha, items, n, hp, hv⟩ := R.obj k _ e
  obtain ⟨b, hb, rfl⟩ := r
  rw [ha] at hb; cases hb
  exact ⟨a, items, rfl, ha, ⟨n, hp⟩, hv⟩
theorem HR.dictAt {h₀ : Heap} {ρ : List Addr} {H : Hp} {s : Shared} (R : HR W h₀ ρ H s) {k : Nat} {ep : Nat} {es : List (Tx × V)} {v : Value} (e : H.t.get k = some (.dict ep es)) (r : VR ρ (.ref k) v) :
    ∃ a kvs, v = .ref a ∧ ρ[k]? = some a ∧ s.heap.DictAt (strKind W.prog W.w) a kvs ep ∧ KRs ρ es kvs := by
  obtain ⟨a, ha, _, kvs, hp, hv⟩ := R.obj k _ e
  obtain ⟨b, hb, rfl⟩ := r
  rw [ha] at hb; cases hb
  exact ⟨a, kvs, rfl, ha, hp, hv⟩
theorem PlainList.isList {h : Heap} {a : Addr} {items : Array Value} (x : h.PlainList a items) : h.IsList a items := let ⟨n, e⟩ := x; ⟨_, e, rfl, n, rfl⟩
theorem isTup_of {h : Heap} {a : Addr} {items : Array Value} (x : ∃ n, h.get? a = some { cls := .type "tuple", data := .seq items n }) : IsTup h a items := let ⟨n, e⟩ := x; ⟨_, e, rfl, n, rfl⟩

/-- an operation that stands in a subscript -/
def OpS (W : Wd) (n : Nat) (o : O2) : Prop := ∀ (value slice : PySem.Expr), (∀ o i : Value, subscripted slice false o i = operate [o, i] (getItem o i)) → Op2 W n o (subscriptTail value slice)
theorem Ref.item {a b : PySem.Expr} {F G : C} {o : O2} {pos : Pos} (ho : OpS W n o) (ha : Ref W n Γ a F) (hb : Ref W n Γ b G) (hs : ∀ o i : Value, subscripted b false o i = operate [o, i] (getItem o i) := by intro _ _; rfl) :
    Ref W n Γ (.Subscript a b pos) (cOp2 o F G) := by
  intro A E s h₀ ρ φ env l H k Q hR hE R h hP
  refine Subscript_ (ha A E s h₀ ρ φ env l H _ _ hR hE R h fun v x ρ₁ H₁ s₁ p₁ R₁ r₁ h₁ => ?_)
  refine hb A E s₁ h₀ ρ₁ φ env l H₁ _ _ hR hE R₁ h₁ fun w y ρ₂ H₂ s₂ p₂ R₂ r₂ h₂ => ?_
  exact ho a b hs A E s₂ h₀ ρ₂ φ l H₂ k Q v w x y hR R₂ (r₁.mono p₂) r₂ h₂ (hP.mono (p₁.trans p₂))
theorem seqIndex_nat {i n : Nat} (h : i < n) : seqIndex? (i : Int) n = some i := by
  unfold seqIndex?
  have h1 : ¬ ((i : Int) < 0) := by omega
  simp only [h1, if_false]
  rw [if_pos (by simp; omega)]
  simp
theorem op_itemL : OpS W n oItemL := by
  intro value slice hs A E s h₀ ρ φ l H k Q a b x y hR R ra rb h hP
  obtain ⟨j, vs, rfl, e, h'⟩ := asList_of h; clear h; have h := h'; clear h'
  obtain ⟨i, rfl, h'⟩ := asNat_of h; clear h; have h := h'; clear h'
  obtain ⟨hc, h⟩ := chk_of h
  have hi := PySem.W.Z.blt_iff.mp hc
  rw [nthO_eq] at h
  obtain ⟨t, rfl⟩ := rb
  obtain ⟨adr, items, rfl, ha, hp, hv⟩ := R.h.listAt e ra
  cases q : vs[i]? with
  | none => rw [q] at h; exact absurd h Bool.false_ne_true
  | some z =>
    rw [q] at h
    obtain ⟨v, hv1, hv2⟩ := hv.get q
    have hL := PlainList.isList hp
    exact tail_any hL.typeIs slot_list_getitem.lookup (wpAny_getItem_list hL (by omega) (by omega) (by simpa using hv1) (hP.here R hv2 h)) (hs _ _)
theorem op_itemT : OpS W n oItemT := by
  intro value slice hs A E s h₀ ρ φ l H k Q a b x y hR R ra rb h hP
  obtain ⟨j, vs, rfl, e, h'⟩ := asTup_of h; clear h; have h := h'; clear h'
  obtain ⟨i, rfl, h'⟩ := asNat_of h; clear h; have h := h'; clear h'
  obtain ⟨hc, h⟩ := chk_of h
  have hi := PySem.W.Z.blt_iff.mp hc
  rw [nthO_eq] at h
  obtain ⟨t, rfl⟩ := rb
  obtain ⟨adr, items, rfl, ha, hp, hv⟩ := R.h.tupAt e ra
  cases q : vs[i]? with
  | none => rw [q] at h; exact absurd h Bool.false_ne_true
  | some z =>
    rw [q] at h
    obtain ⟨v, hv1, hv2⟩ := hv.get q
    have hL := isTup_of hp
    have hlt : i < items.length := (List.getElem?_eq_some_iff.mp hv1).1
    exact item_tupleT hL (by omega) (by omega) (seqIndex_nat (by simpa using hlt)) (by simpa using hv1) (hP.here R hv2 h) (hs _ _)
theorem op_itemS : OpS W n oItemS := by
  intro value slice hs A E s h₀ ρ φ l H k Q a b x y hR R ra rb h hP
  obtain ⟨vs, rfl, h'⟩ := asStr_of h; clear h; have h := h'; clear h'
  obtain ⟨i, rfl, h'⟩ := asNat_of h; clear h; have h := h'; clear h'
  obtain ⟨hc, h⟩ := chk_of h
  have hi := PySem.W.Z.blt_iff.mp hc
  rw [nthO_eq] at h
  obtain ⟨t, rfl⟩ := rb
  obtain ⟨u, rfl⟩ := ra
  cases q : vs[i]? with
  | none => rw [q] at h; exact absurd h Bool.false_ne_true
  | some z =>
    rw [q] at h
    have hlt : i < vs.length := (List.getElem?_eq_some_iff.mp q).1
    refine tail_any (typeIs_str s (toStr vs) u) slot_str_getitem.lookup (PySem.P.getItem_str (by simp; omega) ?_ (hP.here (x := .str [z]) (R.tok _) ⟨_, rfl⟩ h)) (hs _ _)
    rw [seqIndex_nat (by rw [toStr_len]; exact hlt)]
    simpa using q
theorem findT_some {x : Tx} {ρ : List Addr} : ∀ {es : List (Tx × V)} {kvs : List (Str × Value)}, KRs ρ es kvs → ∀ {y : V}, findT x es = some y → ∃ v, valueAt kvs (toStr x) = some v ∧ VR ρ y v
  | [], [], _, _, h => nomatch h
  | e :: es, kv :: kvs, ⟨h1, h2, h3⟩, y, h => by
    have hh : @Bool.rec (fun _ => Option V) (findT x es) (some e.2) (eqT e.1 x) = some y := h
    unfold valueAt
    rw [List.find?_cons]
    cases q : eqT e.1 x with
    | true =>
      rw [q] at hh
      have := (eqT_iff _ _).mp q
      subst this
      cases hh
      exact ⟨kv.2, by simp [h1], h2⟩
    | false =>
      rw [q] at hh
      have hne : ¬ kv.1 = toStr x := fun e' => by
        rw [h1] at e'
        have : e.1 = x := by simpa using congrArg Str.cps e'
        rw [(eqT_iff _ _).mpr this] at q; cases q
      simp only [decide_eq_false hne]
      exact findT_some h3 hh
  | [], _ :: _, q, _, _ => q.elim
  | _ :: _, [], q, _, _ => q.elim
theorem findT_none {x : Tx} {ρ : List Addr} : ∀ {es : List (Tx × V)} {kvs : List (Str × Value)}, KRs ρ es kvs → findT x es = .none → valueAt kvs (toStr x) = none
  | [], [], _, _ => rfl
  | e :: es, kv :: kvs, ⟨h1, h2, h3⟩, h => by
    have hh : @Bool.rec (fun _ => Option V) (findT x es) (some e.2) (eqT e.1 x) = .none := h
    unfold valueAt
    rw [List.find?_cons]
    cases q : eqT e.1 x with
    | true => rw [q] at hh; cases hh
    | false =>
      rw [q] at hh
      have hne : ¬ kv.1 = toStr x := fun e' => by
        rw [h1] at e'
        have : e.1 = x := by simpa using congrArg Str.cps e'
        rw [(eqT_iff _ _).mpr this] at q; cases q
      simp only [decide_eq_false hne]
      exact findT_none h3 hh
  | [], _ :: _, q, _ => q.elim
  | _ :: _, [], q, _ => q.elim
theorem op_itemD : OpS W n oItemD := by
  intro value slice hs A E s h₀ ρ φ l H k Q a b x y hR R ra rb h hP
  obtain ⟨j, ep, es, rfl, e, h'⟩ := asDict_of h; clear h; have h := h'; clear h'
  obtain ⟨i, rfl, h'⟩ := asStr_of h; clear h; have h := h'; clear h'
  obtain ⟨t, rfl⟩ := rb
  obtain ⟨adr, kvs, rfl, ha, hpE, hv⟩ := R.h.dictAt e ra
  have hp := hpE.dictOf
  cases q : findT i es with
  | none => rw [q] at h; exact absurd h Bool.false_ne_true
  | some z =>
    rw [q] at h
    obtain ⟨v, hv1, hv2⟩ := findT_some hv q
    exact tail_any hp.typeIs slot_dict_getitem.lookup (wpAny_getItem_of (strKind_is W.prog W.w _ t) hp.mapOf hv1 (hP.here (R.tok _) hv2 h)) (hs _ _)
theorem HR.notMods {h₀ : Heap} {ρ : List Addr} {H : Hp} {s : Shared} (R : HR W h₀ ρ H s) {k : Nat} {a : Addr} {ep : Nat} {es : List (Tx × V)} (e : H.t.get k = some (.dict ep es)) (ha : ρ[k]? = some a) : (a == sysModules) = false := by
  obtain ⟨b, hb, q, _⟩ := R.obj k _ e
  rw [ha] at hb; cases hb
  exact q
theorem op_inD : Op2 W n oInD (compareOp .In) := by
  intro A E s h₀ ρ φ l H k Q a b x y hR R ra rb h hP
  obtain ⟨i, rfl, h'⟩ := asStr_of h; clear h; have h := h'; clear h'
  obtain ⟨j, ep, es, rfl, e, h'⟩ := asDict_of h; clear h; have h := h'; clear h'
  obtain ⟨t, rfl⟩ := ra
  obtain ⟨adr, kvs, rfl, ha, hpE, hv⟩ := R.h.dictAt e rb
  have hp := hpE.dictOf
  have hs : (valueAt kvs (toStr i)).isSome = (findT i es).isSome := by
    cases q : findT i es with
    | none => rw [findT_none hv q]; rfl
    | some z => obtain ⟨v, hv1, hv2⟩ := findT_some hv q; rw [hv1]; rfl
  exact wpAny_in_of (strKind_is W.prog W.w _ t) (R.h.notMods e ha) hp.mapOf (by rw [hs]; exact hP.here (x := .bool _) (R.tok _) rfl h)
theorem op_notInD : Op2 W n oNotInD (compareOp .NotIn) := by
  intro A E s h₀ ρ φ l H k Q a b x y hR R ra rb h hP
  obtain ⟨i, rfl, h'⟩ := asStr_of h; clear h; have h := h'; clear h'
  obtain ⟨j, ep, es, rfl, e, h'⟩ := asDict_of h; clear h; have h := h'; clear h'
  obtain ⟨t, rfl⟩ := ra
  obtain ⟨adr, kvs, rfl, ha, hpE, hv⟩ := R.h.dictAt e rb
  have hp := hpE.dictOf
  have hs : (valueAt kvs (toStr i)).isSome = (findT i es).isSome := by
    cases q : findT i es with
    | none => rw [findT_none hv q]; rfl
    | some z => obtain ⟨v, hv1, hv2⟩ := findT_some hv q; rw [hv1]; rfl
  exact wpAny_notIn_of (strKind_is W.prog W.w _ t) (R.h.notMods e ha) hp.mapOf (by rw [hs]; exact hP.here (x := .bool _) (R.tok _) rfl h)
end
end Mine
namespace Mine
open PySem PySem.W PyProof.Rows
section
variable {W : Wd} {n : Nat} {Γ : Sc}

mutual
noncomputable def toDat : D → Dat
  | .int i => .int i
  | .str s => .str (toStr s)
  | .list d => .list (toDats d)
  | .tup d => .tuple (toDats d)
  | .nil => .none
  | .cons _ _ => .none
noncomputable def toDats : D → List Dat
  | .cons a b => toDat a :: toDats b
  | _ => []
end
/-- of a value, of a row of values -/
noncomputable def wfD : Bool → D → Bool
  | true, .int _ => true
  | true, .str _ => true
  | true, .list d => wfD false d
  | true, .tup d => wfD false d
  | true, _ => false
  | false, .nil => true
  | false, .cons a b => wfD true a && wfD false b
  | false, _ => false
theorem eqDD_iff : ∀ (a b : D), eqDD a b = true ↔ a = b
  | .int i, b => by cases b <;> first | (show eqZ _ _ = true ↔ _; rw [eqZ_iff, D.int.injEq]) | exact ⟨fun h => absurd h Bool.false_ne_true, fun h => nomatch h⟩
  | .str i, b => by cases b <;> first | (show eqT _ _ = true ↔ _; rw [eqT_iff, D.str.injEq]) | exact ⟨fun h => absurd h Bool.false_ne_true, fun h => nomatch h⟩
  | .nil, b => by cases b <;> first | exact ⟨fun _ => rfl, fun _ => rfl⟩ | exact ⟨fun h => absurd h Bool.false_ne_true, fun h => nomatch h⟩
  | .cons x y, b => by
    cases b with
    | cons c d =>
      show @Bool.rec (fun _ => Bool) false (eqDD y d) (eqDD x c) = true ↔ _
      rw [D.cons.injEq, ← eqDD_iff x c, ← eqDD_iff y d]
      cases eqDD x c <;> simp
    | _ => exact ⟨fun h => absurd h Bool.false_ne_true, fun h => nomatch h⟩
  | .list x, b => by
    cases b with
    | list d => show eqDD x d = true ↔ _; rw [D.list.injEq]; exact eqDD_iff x d
    | _ => exact ⟨fun h => absurd h Bool.false_ne_true, fun h => nomatch h⟩
  | .tup x, b => by
    cases b with
    | tup d => show eqDD x d = true ↔ _; rw [D.tup.injEq]; exact eqDD_iff x d
    | _ => exact ⟨fun h => absurd h Bool.false_ne_true, fun h => nomatch h⟩
mutual
theorem toDat_inj : ∀ (a b : D), wfD true a = true → wfD true b = true → toDat a = toDat b → a = b
  | .int i, b, _, h2, e => by cases b <;> simp_all [toDat, wfD]
  | .str i, b, _, h2, e => by cases b <;> simp_all [toDat, wfD]
  | .list x, b, h1, h2, e => by
    cases b with
    | list d => simp only [toDat, Dat.list.injEq] at e; rw [toDats_inj x d h1 h2 e]
    | _ => simp_all [toDat, wfD]
  | .tup x, b, h1, h2, e => by
    cases b with
    | tup d => simp only [toDat, Dat.tuple.injEq] at e; rw [toDats_inj x d h1 h2 e]
    | _ => simp_all [toDat, wfD]
  | .nil, _, h1, _, _ => by simp [wfD] at h1
  | .cons _ _, _, h1, _, _ => by simp [wfD] at h1
theorem toDats_inj : ∀ (a b : D), wfD false a = true → wfD false b = true → toDats a = toDats b → a = b
  | .nil, b, _, h2, e => by cases b <;> simp_all [toDats, wfD]
  | .cons x y, b, h1, h2, e => by
    cases b with
    | cons c d =>
      simp only [wfD, Bool.and_eq_true] at h1 h2
      simp only [toDats, List.cons.injEq] at e
      rw [toDat_inj x c h1.1 h2.1 e.1, toDats_inj y d h1.2 h2.2 e.2]
    | _ => simp_all [toDats, wfD]
  | .int _, _, h1, _, _ => by simp [wfD] at h1
  | .str _, _, h1, _, _ => by simp [wfD] at h1
  | .list _, _, h1, _, _ => by simp [wfD] at h1
  | .tup _, _, h1, _, _ => by simp [wfD] at h1
end
theorem okT_of : ∀ {s : Tx}, okT s = true → PyData.strOk (toStr s) = true
  | [], _ => by simp [PyData.strOk]
  | x :: xs, h => by
    have h' : @Bool.rec (fun _ => Bool) false (okT xs) (Nat.blt x 1114112) = true := h
    cases q : Nat.blt x 1114112 with
    | false => rw [q] at h'; exact absurd h' Bool.false_ne_true
    | true =>
      rw [q] at h'
      have r := okT_of h'
      have hx := PySem.W.Z.blt_iff.mp q
      simp only [PyData.strOk, toStr, List.all_toArray, List.all_cons, Bool.and_eq_true, decide_eq_true_eq] at r ⊢
      exact ⟨hx, r⟩
theorem kqdOk_succ : ∀ (n : Nat) (d : Dat), kqdOk n d = true → kqdOk (n + 1) d = true
  | 0, d, h => by cases d <;> simp_all [kqdOk]
  | n + 1, d, h => by
    cases d with
    | tuple ds => simp only [kqdOk, List.all_eq_true] at h ⊢; exact fun x hx => kqdOk_succ n x (h x hx)
    | list ds => simp only [kqdOk, List.all_eq_true] at h ⊢; exact fun x hx => kqdOk_succ n x (h x hx)
    | _ => simp_all [kqdOk]
theorem kqdOk_mono {n m : Nat} (h : n ≤ m) {d : Dat} (q : kqdOk n d = true) : kqdOk m d = true := by
  induction h with
  | refl => exact q
  | step _ ih => exact kqdOk_succ _ _ ih
def Rd (h : Heap) (v : Value) (n : Nat) (d : D) : Prop := (∃ as, Reads h v (kqdP (toDat d)) as) ∧ kqdOk n (toDat d) = true ∧ wfD true d = true
def Rds (h : Heap) (vs : List Value) (n : Nat) (d : D) : Prop := (∃ as, ReadsAll h vs (kqdPs (toDats d)) as) ∧ (∀ e ∈ toDats d, kqdOk n e = true) ∧ wfD false d = true
theorem rds_of {H : Hp} {h₀ : Heap} {ρ : List Addr} {s : Shared} {m : Nat} {f : V → (D → Bool) → Bool}
    (hf : ∀ {x : V} {v : Value} {k : D → Bool}, VR ρ x v → f x k = true → ∃ d, k d = true ∧ Rd s.heap v m d) :
    ∀ {xs : List V} {vs : List Value} {k : D → Bool}, VRs ρ xs vs → rds f xs k = true → ∃ d, k d = true ∧ Rds s.heap vs m d
  | [], [], k, _, h => ⟨.nil, h, ⟨[], .nil⟩, by simp [toDats], rfl⟩
  | x :: xs, v :: vs, k, ⟨r, rs⟩, h => by
    have h' : (f x fun d => rds f xs fun e => k (.cons d e)) = true := h
    obtain ⟨d, hd, ⟨as, ra⟩, ok, wf⟩ := hf r h'
    obtain ⟨e, he, ⟨bs, rb⟩, oks, wfs⟩ := rds_of (h₀ := h₀) (H := H) hf rs hd
    refine ⟨.cons d e, he, ⟨_, by rw [toDats, kqdPs]; exact .cons ra rb⟩, fun y hy => ?_, by simp [wfD, wf, wfs]⟩
    rw [toDats] at hy
    rcases List.mem_cons.mp hy with rfl | hy
    · exact ok
    · exact oks y hy
  | [], _ :: _, _, q, _ => q.elim
  | _ :: _, [], _, q, _ => q.elim
theorem rd_of {H : Hp} {h₀ : Heap} {ρ : List Addr} {s : Shared} (R : HR W h₀ ρ H s) : ∀ (m : Nat) {x : V} {v : Value} {k : D → Bool}, VR ρ x v → rd H m x k = true → ∃ d, k d = true ∧ Rd s.heap v m d
  | 0, _, _, _, _, h => absurd h Bool.false_ne_true
  | m + 1, x, v, k, r, h => by
    cases x with
    | int i => obtain ⟨t, rfl⟩ := r; exact ⟨.int i, h, ⟨_, .int i t⟩, by simp [toDat, kqdOk], rfl⟩
    | str i =>
      obtain ⟨t, rfl⟩ := r
      have h' : chk (okT i) (k (.str i)) = true := h
      obtain ⟨hc, h'⟩ := chk_of h'
      exact ⟨.str i, h', ⟨_, .str (toStr i) t⟩, by simp only [toDat, kqdOk]; exact okT_of hc, rfl⟩
    | ref a =>
      have h' : (match H.t.get a with
        | some (.list vs) => rds (rd H m) vs fun d => k (.list d)
        | some (.tup vs) => rds (rd H m) vs fun d => k (.tup d)
        | _ => false) = true := h
      clear h
      cases e : H.t.get a with
      | none => simp only [e] at h'; exact absurd h' Bool.false_ne_true
      | some o =>
        simp only [e] at h'
        cases o with
        | list vs =>
          obtain ⟨adr, items, rfl, ha, ⟨nn, hp⟩, hv⟩ := R.listAt e r
          obtain ⟨d, hd, ⟨as, ra⟩, ok, wf⟩ := rds_of (h₀ := h₀) (H := H) (fun q => rd_of R m q) hv h'
          exact ⟨.list d, hd, ⟨_, by rw [toDat, kqdP]; exact reads_list_at hp rfl rfl (by simpa using ra)⟩, by simpa [toDat, kqdOk] using ok, wf⟩
        | tup vs =>
          obtain ⟨adr, items, rfl, ha, ⟨nn, hp⟩, hv⟩ := R.tupAt e r
          obtain ⟨d, hd, ⟨as, ra⟩, ok, wf⟩ := rds_of (h₀ := h₀) (H := H) (fun q => rd_of R m q) hv h'
          exact ⟨.tup d, hd, ⟨_, by rw [toDat, kqdP]; exact reads_tuple_at hp rfl rfl (by simpa using ra)⟩, by simpa [toDat, kqdOk] using ok, wf⟩
        | _ => exact absurd h' Bool.false_ne_true
    | _ => exact absurd h Bool.false_ne_true
theorem Rd.shaped {h : Heap} {v : Value} {m : Nat} {d : D} (r : Rd h v m d) (hm : m ≤ 9) : SeqAt.shaped (kqdP (toDat d)) = true := by
  have l := kqd_lay m _ r.2.1
  unfold SeqAt.shaped
  rw [l.1, Bool.true_and]
  exact decide_eq_true (Nat.le_trans l.2 (Nat.le_trans hm (by decide)))
theorem Rd.eqv {h : Heap} {u v : Value} {m k : Nat} {d e : D} (r : Rd h u m d) (q : Rd h v k e) : PyData.eqv (kqdP (toDat d)) (kqdP (toDat e)) = eqDD d e := by
  refine bool_eq ((kqd_eqv m _ _ k r.2.1 q.2.1).trans ?_)
  rw [eqDD_iff]
  exact ⟨toDat_inj d e r.2.2 q.2.2, fun h => by rw [h]⟩
theorem op_eqD : Op2 W n oEqD (compareOp .Eq) := by
  intro A E s h₀ ρ φ l H k Q a b x y hR R ra rb h hP
  obtain ⟨d, h1, q1⟩ := rd_of R.h 5 ra h
  obtain ⟨e, h2, q2⟩ := rd_of R.h 5 rb h1
  obtain ⟨as, r1⟩ := q1.1
  obtain ⟨bs, r2⟩ := q2.1
  exact eq_dataH r1 r2 (q1.shaped (by decide)) (q2.shaped (by decide)) (by have := hR.un; show A.units + 64 < 9900; omega) (by rw [q1.eqv q2]; exact hP.here (x := .bool _) R rfl h2)
theorem op_neD : Op2 W n oNeD (compareOp .NotEq) := by
  intro A E s h₀ ρ φ l H k Q a b x y hR R ra rb h hP
  obtain ⟨d, h1, q1⟩ := rd_of R.h 5 ra h
  obtain ⟨e, h2, q2⟩ := rd_of R.h 5 rb h1
  obtain ⟨as, r1⟩ := q1.1
  obtain ⟨bs, r2⟩ := q2.1
  exact ne_dataH r1 r2 (q1.shaped (by decide)) (q2.shaped (by decide)) (by have := hR.un; show A.units + 64 < 9900; omega) (by rw [q1.eqv q2]; exact hP.here (x := .bool _) R rfl h2)
theorem memD_eq {h : Heap} {u : Value} {m : Nat} {d : D} (r : Rd h u m d) : ∀ (e : D) {k : Nat}, (∀ y ∈ toDats e, kqdOk k y = true) → wfD false e = true → ((kqdPs (toDats e)).any fun y => PyData.eqv y (kqdP (toDat d))) = memD d e
  | .nil, _, _, _ => by simp [toDats, kqdPs]; rfl
  | .cons a b, k, ok, wf => by
    simp only [wfD, Bool.and_eq_true] at wf
    have ih := memD_eq r b (k := k) (fun y hy => ok y (by rw [toDats]; exact .tail _ hy)) wf.2
    have e1 : PyData.eqv (kqdP (toDat a)) (kqdP (toDat d)) = eqDD a d := by
      refine bool_eq ((kqd_eqv k _ _ m (ok _ (by rw [toDats]; exact .head _)) r.2.1).trans ?_)
      rw [eqDD_iff]
      exact ⟨toDat_inj a d wf.1 r.2.2, fun h => by rw [h]⟩
    show _ = @Bool.rec (fun _ => Bool) (memD d b) true (eqDD a d)
    simp only [toDats, kqdPs, List.any_cons, ih, e1]
    cases eqDD a d <;> simp
  | .int _, _, _, wf => by simp [wfD] at wf
  | .str _, _, _, wf => by simp [wfD] at wf
  | .list _, _, _, wf => by simp [wfD] at wf
  | .tup _, _, _, wf => by simp [wfD] at wf
theorem in_pre {H : Hp} {A : Around} {h₀ : Heap} {ρ : List Addr} {φ : List Loc} {l : List V} {s : Shared} {a b : Value} {x y : V} {k : D → D → Bool} (hR : Room n A) (R : SR W φ h₀ ρ l H s) (ra : VR ρ x a) (rb : VR ρ y b)
    (h : (rd H 4 x fun d => asList y H fun vs => rds (rd H 4) vs fun e => k d e) = true) : ∃ d e adr, k d e = true ∧ Rd s.heap a 4 d ∧ b = .ref adr ∧ (∃ as, Reads s.heap (.ref adr) (.list (kqdPs (toDats e))) as) ∧ (∀ y ∈ toDats e, kqdOk 4 y = true) ∧ wfD false e = true := by
  obtain ⟨d, h1, q1⟩ := rd_of R.h 4 ra h
  obtain ⟨j, vs, rfl, e', h2⟩ := asList_of h1
  obtain ⟨adr, items, rfl, ha, ⟨nn, hp⟩, hv⟩ := R.h.listAt e' rb
  obtain ⟨e, hd, ⟨as, rr⟩, ok, wf⟩ := rds_of (h₀ := h₀) (H := H) (fun q => rd_of R.h 4 q) hv h2
  exact ⟨d, e, adr, hd, q1, rfl, ⟨_, reads_list_at hp rfl rfl (by simpa using rr)⟩, ok, wf⟩
theorem op_inL : Op2 W n oInL (compareOp .In) := by
  intro A E s h₀ ρ φ l H k Q a b x y hR R ra rb h hP
  obtain ⟨d, e, adr, hk, q, rfl, ⟨as, r2⟩, ok, wf⟩ := in_pre hR R ra rb h
  obtain ⟨bs, r1⟩ := q.1
  have l1 := kqd_lay 4 _ q.2.1
  have l2 := kqd_layL (ds := toDats e) (fun y hy => by
    have := ok y hy
    exact kqdOk_mono (by decide) this)
  refine SeqAt.in_list_reads r2 r1 l2.1 l1.1 ?_ (by rw [memD_eq q e ok wf]; exact hP.here (x := .bool _) R rfl hk)
  have := hR.un
  have h3 := l1.2
  have h4 := Nat.min_le_right (PyData.depthAll (kqdPs (toDats e))) (kqdP (toDat d)).depth
  show A.units + 1 + _ < 9900
  omega
theorem op_notInL : Op2 W n oNotInL (compareOp .NotIn) := by
  intro A E s h₀ ρ φ l H k Q a b x y hR R ra rb h hP
  obtain ⟨d, e, adr, hk, q, rfl, ⟨as, r2⟩, ok, wf⟩ := in_pre hR R ra rb h
  obtain ⟨bs, r1⟩ := q.1
  have l1 := kqd_lay 4 _ q.2.1
  have l2 := kqd_layL (ds := toDats e) (fun y hy => by
    have := ok y hy
    exact kqdOk_mono (by decide) this)
  refine SeqAt.notIn_list_reads r2 r1 l2.1 l1.1 ?_ (by rw [memD_eq q e ok wf]; exact hP.here (x := .bool _) R rfl hk)
  have := hR.un
  have h3 := l1.2
  have h4 := Nat.min_le_right (PyData.depthAll (kqdPs (toDats e))) (kqdP (toDat d)).depth
  show A.units + 1 + _ < 9900
  omega
end
end Mine
namespace Mine
open PySem PySem.W PyProof.Rows
section
variable {W : Wd} {n : Nat} {Γ : Sc}

theorem op_subB : Op2 W n oSubB (binaryOp .Sub) := by
  intro A E s h₀ ρ φ l H k Q a b x y hR R ra rb h hP
  obtain ⟨i, rfl, h'⟩ := asBool_of h; clear h; have h := h'; clear h'
  obtain ⟨j, rfl, h'⟩ := asBool_of h; clear h; have h := h'; clear h'
  cases ra; cases rb
  refine sub_bool ?_
  cases i <;> cases j <;> exact hP.here (x := .int _) (R.tok _) ⟨_, rfl⟩ h
theorem op_isNot : Op2 W n oIsNot (compareOp .IsNot) := by
  intro A E s h₀ ρ φ l H k Q a b x y hR R ra rb h hP
  have h' : isV x y (fun t => k (.bool (!t)) H) = true := h
  cases x <;> cases y <;> first | exact absurd h' Bool.false_ne_true | skip
  · cases ra; cases rb; exact isnot_none_none (hP.here (x := .bool _) R rfl h')
  · cases ra; cases rb; exact isnot_none_ne (by intro e; cases e) (hP.here (x := .bool _) R rfl h')
  · cases ra; cases rb
    rename_i b c
    exact isnot_bool (hP.here (x := .bool (!(b == c))) R (by cases b <;> cases c <;> rfl) h')
  · obtain ⟨t, rfl⟩ := ra; cases rb; exact isnot_none_ne (by intro e; cases e) (hP.here (x := .bool _) R rfl h')
theorem op_is : Op2 W n oIs (compareOp .Is) := by
  intro A E s h₀ ρ φ l H k Q a b x y hR R ra rb h hP
  have h' : isV x y (fun t => k (.bool t) H) = true := h
  cases x <;> cases y <;> first | exact absurd h' Bool.false_ne_true | skip
  · cases ra; cases rb; exact is_none_none (hP.here (x := .bool _) R rfl h')
  · cases ra; cases rb; exact is_none_ne (by intro e; cases e) (hP.here (x := .bool _) R rfl h')
  · cases ra; cases rb
    rename_i b c
    exact is_bool (hP.here (x := .bool (b == c)) R (by cases b <;> cases c <;> rfl) h')
  · obtain ⟨t, rfl⟩ := ra; cases rb; exact is_none_ne (by intro e; cases e) (hP.here (x := .bool _) R rfl h')

-- displays
theorem newObj_SR {φ : List Loc} {h₀ : Heap} {ρ : List Addr} {l : List V} {H : Hp} {s : Shared} {o : Ob} {ob : Obj} (R : SR W φ h₀ ρ l H s) (ho : OB W (ρ ++ [s.heap.objs.size]) (s.heap.push ob) s.heap.objs.size o) :
    SR W φ h₀ (ρ ++ [s.heap.objs.size]) l ⟨H.t.put o H.n, H.n.succ⟩ { s with heap := s.heap.push ob } :=
  R.add (fun _ _ e => Heap.get?_push_of_some _ e) (Nat.le_refl _) ho
theorem newRef {ρ : List Addr} {a : Addr} {H : Hp} (h : ρ.length = H.n) : VR (ρ ++ [a]) (.ref H.n) (.ref a) := ⟨a, by rw [← h]; simp, rfl⟩
theorem Post.new {φ : List Loc} {h₀ : Heap} {ρ : List Addr} {l : List V} {k : K} {Q : Value → Shared → Prop} (hP : Post W φ h₀ ρ l k Q) {H : Hp} {s : Shared} {o : Ob} {ob : Obj} (R : SR W φ h₀ ρ l H s)
    (ho : OB W (ρ ++ [s.heap.objs.size]) (s.heap.push ob) s.heap.objs.size o) (h : newO o H k = true) : Q (.ref s.heap.objs.size) { s with heap := s.heap.push ob } :=
  hP _ (.ref H.n) _ _ _ (List.prefix_append _ _) (newObj_SR R ho) (newRef R.h.len) h
theorem plainPush (h : Heap) (items : List Value) : (h.push { cls := .type "list", data := .seq items.toArray }).PlainList h.objs.size items.toArray := ⟨0, Heap.get?_push_size _ rfl⟩
theorem obList {ρ : List Addr} {h : Heap} {vs : List V} {items : List Value} (r : VRs ρ vs items) : OB W (ρ ++ [h.objs.size]) (h.push { cls := .type "list", data := .seq items.toArray }) h.objs.size (.list vs) :=
  ⟨items, plainPush h items, r.mono (List.prefix_append _ _)⟩
theorem obTup {ρ : List Addr} {h : Heap} {vs : List V} {items : List Value} (r : VRs ρ vs items) : OB W (ρ ++ [h.objs.size]) (h.push { cls := .type "tuple", data := .seq items.toArray }) h.objs.size (.tup vs) :=
  ⟨items, 0, Heap.get?_push_size _ rfl, r.mono (List.prefix_append _ _)⟩
theorem evs_len : ∀ {fs : List C} {l : List V} {H : Hp} {k : List V → Hp → Bool}, evs fs l H k = evs fs l H fun vs h => k vs h := rfl
theorem Ref.list {es : List PySem.Expr} {Fs : List C} {pos : Pos} (he : Refs W n Γ es Fs) (hz : es.length ≤ 1000 := by decide) : Ref W n Γ (.List es pos) (cList Fs) := by
  intro A E s h₀ ρ φ env l H k Q hR hE R h hP
  refine wpAny_List_spliced (he.spliced hR hE R h fun vs xs ρ₁ H₁ s₁ p₁ R₁ r₁ h₁ => ?_)
  have hlen : vs.length ≤ 4096 := by
    rw [← r₁.len]
    obtain ⟨hc, h₁⟩ := chk_of h₁
    have := PySem.W.Z.ble_iff.mp hc
    rw [lenL_eq] at this
    exact this
  exact ⟨by rw [sizeLine_eq]; omega, (hP.mono p₁).new R₁ (obList r₁) (chk_of h₁).2⟩
theorem Ref.tup {es : List PySem.Expr} {Fs : List C} {pos : Pos} {x : Nat} (he : Refs W n Γ es Fs) : Ref W n Γ (.Tuple es x pos) (cTup Fs) := by
  intro A E s h₀ ρ φ env l H k Q hR hE R h hP
  refine wpAny_Tuple_spliced (he.spliced hR hE R h fun vs xs ρ₁ H₁ s₁ p₁ R₁ r₁ h₁ => ?_)
  have hlen : vs.length ≤ 4096 := by
    rw [← r₁.len]
    obtain ⟨hc, h₁⟩ := chk_of h₁
    have := PySem.W.Z.ble_iff.mp hc
    rw [lenL_eq] at this
    exact this
  exact ⟨by rw [sizeLine_eq]; omega, (hP.mono p₁).new R₁ (obTup r₁) (chk_of h₁).2⟩
theorem Ref.dict {pos : Pos} : Ref W n Γ (.Dict [] [] pos) cDict := by
  intro A E s h₀ ρ φ env l H k Q hR hE R h hP
  have hlo : (s.heap.objs.size == sysModules) = false := by
    obtain ⟨_, hn, _⟩ := R.h.bok.nolimit.keeps R.h.baseS
    have h2 : @LT.lt Nat _ cStatics s.heap.objs.size := hn.lt
    refine beq_eq_false_iff_ne.mpr fun e => ?_
    have e : (s.heap.objs.size : Nat) = 1 := e
    have h2 : @LT.lt Nat _ 2 s.heap.objs.size := h2
    omega
  exact wpAny_Dict_empty (hP.new (o := .dict 0 []) R ⟨hlo, [], ⟨_, #[], Heap.get?_push_size _ rfl, ⟨rfl, rfl, rfl⟩, rfl, fun _ he => by simp at he, PySem.Pairs.nil, List.nodup_nil⟩, trivial⟩ h)

-- slices
theorem boundsTo (j m : Nat) : sliceBounds none (some (j : Int)) none m = (((0 : Nat) : Int), ((min j m : Nat) : Int), 1) := by
  simp only [sliceBounds, Option.getD_none, show (1 : Int) > 0 by decide, if_true, if_neg (show ¬ ((j : Int) < 0) by omega)]
  congr 1; congr 1; omega
theorem boundsFrom (i m : Nat) : sliceBounds (some (i : Int)) none none m = (((min i m : Nat) : Int), ((m : Nat) : Int), 1) := by
  simp only [sliceBounds, Option.getD_none, show (1 : Int) > 0 by decide, if_true, if_neg (show ¬ ((i : Int) < 0) by omega)]
  congr 1; omega
theorem pickTo (items : List Value) (j : Nat) : slicePick items.toArray none (some (j : Int)) none = (items.take j).toArray := by
  rw [kmk_pick_nat items.toArray (a := 0) (b := min j items.length) (by rw [List.size_toArray]; exact boundsTo j _)]
  show ((items.drop 0).take (min j items.length - 0)).toArray = _
  rw [List.drop_zero, Nat.sub_zero, kmk_take_min]
theorem pickFrom (items : List Value) (i : Nat) : slicePick items.toArray (some (i : Int)) none none = (items.drop i).toArray := by
  rw [kmk_pick_nat items.toArray (a := min i items.length) (b := items.length) (by rw [List.size_toArray]; exact boundsFrom i _)]
  rw [kmk_drop_min, List.take_of_length_le]
  rw [List.length_drop]; omega
theorem VRs.take {ρ : List Addr} : ∀ {xs : List V} {vs : List Value} (j : Nat), VRs ρ xs vs → VRs ρ (xs.take j) (vs.take j)
  | [], [], j, _ => by simp; trivial
  | x :: xs, v :: vs, 0, _ => trivial
  | x :: xs, v :: vs, j + 1, ⟨a, b⟩ => ⟨a, VRs.take j b⟩
  | [], _ :: _, _, q => q.elim
  | _ :: _, [], _, q => q.elim
theorem VRs.drop {ρ : List Addr} : ∀ {xs : List V} {vs : List Value} (j : Nat), VRs ρ xs vs → VRs ρ (xs.drop j) (vs.drop j)
  | [], [], j, _ => by simp; trivial
  | x :: xs, v :: vs, 0, q => q
  | x :: xs, v :: vs, j + 1, ⟨a, b⟩ => VRs.drop j b
  | [], _ :: _, _, q => q.elim
  | _ :: _, [], _, q => q.elim
theorem VRs.rev {ρ : List Addr} : ∀ {xs : List V} {vs : List Value}, VRs ρ xs vs → VRs ρ xs.reverse vs.reverse
  | [], [], _ => trivial
  | x :: xs, v :: vs, ⟨a, b⟩ => by rw [List.reverse_cons, List.reverse_cons]; exact b.rev.app ⟨a, trivial⟩
  | [], _ :: _, q => q.elim
  | _ :: _, [], q => q.elim
theorem Ref.toL {a b : PySem.Expr} {F G : C} {p pos : Pos} (ha : Ref W n Γ a F) (hb : Ref W n Γ b G) (ht : ∀ o r : Value, letTemporaryGo a o r = pure () := by intro _ _; rfl) :
    Ref W n Γ (.Subscript a (.Slice none (some b) none p) pos) (cOp2 oToL F G) := by
  intro A E s h₀ ρ φ env l H k Q hR hE R h hP
  refine wpAny_Subscript_list_slice (ha A E s h₀ ρ φ env l H _ _ hR hE R h fun v x ρ₁ H₁ s₁ p₁ R₁ r₁ h₁ => ?_) ht
  rw [evalPart_none]
  refine wpAny_pure ?_
  rw [evalPart_some]
  refine hb A E s₁ h₀ ρ₁ φ env l H₁ _ _ hR hE R₁ h₁ fun w y ρ₂ H₂ s₂ p₂ R₂ r₂ h₂ => ?_
  have r₁' := r₁.mono p₂
  obtain ⟨j, vs, rfl, e, h'⟩ := asList_of h₂; clear h₂; have h := h'; clear h'
  obtain ⟨i, rfl, h'⟩ := asNat_of h; clear h; have h := h'; clear h'
  obtain ⟨hc, h⟩ := chk_of h
  have hz := PySem.W.Z.ble_iff.mp hc
  rw [lenL_eq] at hz
  rw [takeL_eq] at h
  obtain ⟨t, rfl⟩ := r₂
  obtain ⟨adr, items, rfl, hadr, hp, hv⟩ := R₂.h.listAt e r₁'
  refine ⟨adr, items.toArray, _, _, rfl, PlainList.isList hp, ?_, .none, .int _ _, ?_⟩
  · rw [List.size_toArray, ← hv.len, sizeLine_eq]; omega
  · rw [pickTo]
    have R₃ := R₂.push { cls := .type "slice", data := .fields #[.none, .int i t, .none] } s₂.toks
    have := ((hP.mono (p₁.trans p₂)).new R₃ (obList (hv.take i)) h)
    simp only [Heap.size_push] at this
    exact this
theorem Ref.fromL {a b : PySem.Expr} {F G : C} {p pos : Pos} (ha : Ref W n Γ a F) (hb : Ref W n Γ b G) (ht : ∀ o r : Value, letTemporaryGo a o r = pure () := by intro _ _; rfl) :
    Ref W n Γ (.Subscript a (.Slice (some b) none none p) pos) (cOp2 oFromL F G) := by
  intro A E s h₀ ρ φ env l H k Q hR hE R h hP
  refine wpAny_Subscript_list_slice (ha A E s h₀ ρ φ env l H _ _ hR hE R h fun v x ρ₁ H₁ s₁ p₁ R₁ r₁ h₁ => ?_) ht
  rw [evalPart_some]
  refine hb A E s₁ h₀ ρ₁ φ env l H₁ _ _ hR hE R₁ h₁ fun w y ρ₂ H₂ s₂ p₂ R₂ r₂ h₂ => ?_
  rw [evalPart_none]
  refine wpAny_pure ?_
  have r₁' := r₁.mono p₂
  obtain ⟨j, vs, rfl, e, h'⟩ := asList_of h₂; clear h₂; have h := h'; clear h'
  obtain ⟨i, rfl, h'⟩ := asNat_of h; clear h; have h := h'; clear h'
  obtain ⟨hc, h⟩ := chk_of h
  have hz := PySem.W.Z.ble_iff.mp hc
  rw [lenL_eq] at hz
  rw [dropL_eq] at h
  obtain ⟨t, rfl⟩ := r₂
  obtain ⟨adr, items, rfl, hadr, hp, hv⟩ := R₂.h.listAt e r₁'
  refine ⟨adr, items.toArray, _, _, rfl, PlainList.isList hp, ?_, .int _ _, .none, ?_⟩
  · rw [List.size_toArray, ← hv.len, sizeLine_eq]; omega
  · rw [pickFrom]
    have R₃ := R₂.push { cls := .type "slice", data := .fields #[.int i t, .none, .none] } s₂.toks
    have := ((hP.mono (p₁.trans p₂)).new R₃ (obList (hv.drop i)) h)
    simp only [Heap.size_push] at this
    exact this
theorem Ref.revL {a : PySem.Expr} {F : C} {k₀ : Nat} {p p1 p2 pos : Pos} (ha : Ref W n Γ a F) (ht : ∀ o r : Value, letTemporaryGo a o r = pure () := by intro _ _; rfl) :
    Ref W n Γ (.Subscript a (.Slice none none (some (.UnaryOp .USub (.Constant (.int 1) k₀ p1) p2)) p) pos) (cOp1 oRevL F) := by
  intro A E s h₀ ρ φ env l H k Q hR hE R h hP
  refine wpAny_Subscript_Slice_step (T := "list") list_getitem_lookup (ha A E s h₀ ρ φ env l H _ _ hR hE R h fun v x ρ₁ H₁ s₁ p₁ R₁ r₁ h₁ => ?_) ht
  refine wpAny_Slice ?_
  rw [evalPart_none, evalPart_some]
  refine wpAny_pure (wpAny_pure (wpAny_UnaryOp (wpAny_Constant_int (PySem.P.neg_int ?_))))
  obtain ⟨j, vs, rfl, e, h'⟩ := asList_of h₁; clear h₁; have h := h'; clear h'
  obtain ⟨hc, h⟩ := chk_of h
  have hz := PySem.W.Z.ble_iff.mp hc
  rw [lenL_eq] at hz
  rw [revL_eq, List.append_nil] at h
  obtain ⟨adr, items, rfl, hadr, hp, hv⟩ := R₁.h.listAt e r₁
  have hL : (s₁.heap.push { cls := .type "slice", data := .fields #[.none, .none, .int (-1) (s₁.toks + 1)] }).IsList adr items.toArray := (PlainList.isList hp).push _
  have R₃ := R₁.push { cls := .type "slice", data := .fields #[.none, .none, .int (-1) (s₁.toks + 1)] } (s₁.toks + 1 + 1)
  refine ⟨hL.typeIs (s := ⟨_, _, _, _, _⟩), wpAny_getItem_list_slice (s := ⟨_, _, _, _, _⟩) (vl := .none) (vu := .none) (vs := .int (-1) (s₁.toks + 1)) hL ⟨_, Heap.get?_push_size _ rfl, rfl, rfl⟩ .none .none (.int _ _) (by decide) ?_ ?_⟩
  · rw [krv_pick]
    have := (hP.mono p₁).new (ob := { cls := .type "list", data := .seq items.reverse.toArray }) R₃ (obList hv.rev) h
    exact this
  · rw [List.size_toArray, ← hv.len, sizeLine_eq]; omega
theorem cutIdx (i j m : Nat) (h : i ≤ j) : Builtin.Str.strSliceIndices (some (i : Int)) (some (j : Int)) 1 m = Builtin.Str.strSliceIndices (some ((min i m : Nat) : Int)) (some ((min j m : Nat) : Int)) 1 m := by
  simp only [Builtin.Str.strSliceIndices, show (1 : Int) > 0 from by decide, if_true, if_neg (show ¬ ((i : Int) < 0) by omega), if_neg (show ¬ ((j : Int) < 0) by omega), if_neg (show ¬ (((min i m : Nat) : Int) < 0) by omega), if_neg (show ¬ (((min j m : Nat) : Int) < 0) by omega)]
  congr 1 <;> omega
theorem Ref.cutS {a b c : PySem.Expr} {F G J : C} {p pos : Pos} (ha : Ref W n Γ a F) (hb : Ref W n Γ b G) (hc : Ref W n Γ c J) (ht : ∀ o r : Value, letTemporaryGo a o r = pure () := by intro _ _; rfl) :
    Ref W n Γ (.Subscript a (.Slice (some b) (some c) none p) pos) (cOp3 oCutS F G J) := by
  intro A E s h₀ ρ φ env l H k Q hR hE R h hP
  refine wpAny_Subscript_str_slice (ha A E s h₀ ρ φ env l H _ _ hR hE R h fun v x ρ₁ H₁ s₁ p₁ R₁ r₁ h₁ => ?_) ht
  rw [evalPart_some]
  refine hb A E s₁ h₀ ρ₁ φ env l H₁ _ _ hR hE R₁ h₁ fun w y ρ₂ H₂ s₂ p₂ R₂ r₂ h₂ => ?_
  rw [evalPart_some]
  refine hc A E s₂ h₀ ρ₂ φ env l H₂ _ _ hR hE R₂ h₂ fun u z ρ₃ H₃ s₃ p₃ R₃ r₃ h₃ => ?_
  obtain ⟨t, rfl, h'⟩ := asStr_of h₃; clear h₃; have h := h'; clear h'
  obtain ⟨i, rfl, h'⟩ := asNat_of h; clear h; have h := h'; clear h'
  obtain ⟨j, rfl, h'⟩ := asNat_of h; clear h; have h := h'; clear h'
  obtain ⟨hc1, h⟩ := chk_of h
  obtain ⟨hc2, h⟩ := chk_of h
  have hij := PySem.W.Z.ble_iff.mp hc1
  have hz := PySem.W.Z.ble_iff.mp hc2
  rw [lenL_eq] at hz
  rw [takeL_eq, dropL_eq] at h
  obtain ⟨tt, rfl⟩ := r₁
  obtain ⟨ti, rfl⟩ := r₂
  obtain ⟨tj, rfl⟩ := r₃
  refine ⟨toStr t, tt, some ((i : Int), ti), some ((j : Int), tj), rfl, rfl, rfl, ?_⟩
  have hP' := hP.mono (p₁.trans (p₂.trans p₃))
  have R₄ := R₃.push { cls := .type "slice", data := .fields #[.int i ti, .int j tj, .none] } s₃.toks
  have key : (slicePicked (toStr t) (some ((i : Int), ti)) (some ((j : Int), tj)) none).filterMap ((toStr t).cps[·]?) = (t.drop i).take (j - i) := by
    show (Builtin.Str.strSliceIndices (some (i : Int)) (some (j : Int)) 1 (toStr t).length).filterMap _ = _
    rw [cutIdx i j _ hij, StrLaws.sliced_plain (toStr t) (by omega) (by omega), toStr_len]
    show (t.toArray.toList.drop _).take _ = _
    rw [List.toList_toArray, kmk_drop_min]
    by_cases q : j ≤ t.length
    · rw [Nat.min_eq_left q]
      by_cases q2 : i ≤ t.length
      · rw [Nat.min_eq_left q2]
      · rw [List.drop_of_length_le (by omega)]; simp
    · rw [Nat.min_eq_right (by omega)]
      rw [List.take_of_length_le (l := t.drop i) (i := j - i) (by rw [List.length_drop]; omega), List.take_of_length_le]
      rw [List.length_drop]; omega
  unfold sliceMade
  split
  · rename_i hh
    have hlen : (slicePicked (toStr t) (some ((i : Int), ti)) (some ((j : Int), tj)) none).length = t.length := by
      rw [Bool.and_eq_true] at hh
      rw [← toStr_len]
      exact eq_of_beq hh.2
    have same : (t.drop i).take (j - i) = t := by
      have h1 : (Builtin.Str.strSliceIndices (some (i : Int)) (some (j : Int)) 1 (toStr t).length).length = t.length := hlen
      rw [cutIdx i j _ hij, StrLaws.strSliceIndices_plain (by omega) (by omega), List.length_map, List.length_range, toStr_len] at h1
      by_cases q : t.length = 0
      · have : t = [] := List.eq_nil_of_length_eq_zero q
        subst this; simp
      · have : i = 0 := by omega
        subst this
        rw [List.drop_zero, List.take_of_length_le (by omega)]
    rw [same] at h
    exact hP'.here (x := .str t) R₄ ⟨_, rfl⟩ h
  · rw [key]
    refine ⟨?_, hP'.here (x := .str _) (R₄.tok _) ⟨_, rfl⟩ h⟩
    rw [toStr_len, sizeLine_eq]
    have : ((t.drop i).take (j - i)).length ≤ t.length := by rw [List.length_take, List.length_drop]; omega
    omega
end
end Mine
namespace Mine
open PySem PySem.W PyProof.Rows
section
variable {W : Wd} {n : Nat} {Γ : Sc}

theorem store_slot {A : Around} {E : Value → Shared → Prop} {s : Shared} {φ : List Loc} {env : Env} {h₀ : Heap} {ρ : List Addr} {l : List V} {H : Hp} {x : Str} {i : Nat} {y : V} {v : Value} {Q : Unit → Shared → Prop}
    (hE : EnvOK Γ φ env) (R : SR W φ h₀ ρ l H s) (hx : Γ.names.lookup x = some i) (hf : Γ.sc.names.lookup x ≠ some .free) (hv : VR ρ y v) (h : ∀ s', SR W φ h₀ ρ (l.set i y) H s' → Q () s') :
    wpAny (model W.prog W.w) A (storeName env x v) Q E s := by
  obtain ⟨lc, hi, hlc⟩ := hE.slot x i hx
  have hk : env.scope.kind = .function := by rw [hE.sc]; exact hE.kind
  have hok := R.f.ok lc (List.mem_of_getElem? hi)
  rcases hlc with ⟨h1, rfl⟩ | ⟨h1, c, h2, rfl⟩
  · obtain ⟨m, hm⟩ := hok
    refine wpAny_storeName_local (by show env.scope.names.lookup x = _; rw [hE.sc]; exact h1) hm (fun h' hn hs => h _ ?_) (by show (env.scope.kind == .class || (env.scope.kind == .module && env.locals != env.globals)) = false; rw [hk]; rfl)
    refine R.set hi hv hs (fun L nm m' e hm' => ?_) (fun c e => nomatch e)
    cases e
    rw [Heap.Ns.uniq hm' hm]
    exact hn
  · rcases h1 with h1 | h1
    · obtain ⟨v₀, hv₀⟩ := hok
      refine wpAny_storeName_cell hk (by show env.scope.names.lookup x = _; rw [hE.sc]; exact h1) h2 hv₀ fun h' hc hs => h _ ?_
      refine R.set hi hv hs (fun L nm m' e hm' => nomatch e) (fun c' e => ?_)
      cases e
      exact hc
    · exact absurd h1 hf

/-- rows of names and their slots -/
inductive NamesAt (Γ : Sc) : List PySem.Expr → List Nat → Prop
  | nil : NamesAt Γ [] []
  | cons {x : Str} {pos : Pos} {i : Nat} {es : List PySem.Expr} {is : List Nat} (hx : Γ.names.lookup x = some i) (hf : Γ.sc.names.lookup x ≠ some .free) (h : NamesAt Γ es is) : NamesAt Γ (.Name x pos :: es) (i :: is)
theorem NamesAt.each {es : List PySem.Expr} {is : List Nat} (h : NamesAt Γ es is) (env : Env) : (assignEach es env).length = is.length ∧ (assignEach es env).findIdx? (·.1) = none := by
  induction h with
  | nil => exact ⟨rfl, rfl⟩
  | @cons x pos i es is hx hf h ih =>
    have e : assignEach (.Name x pos :: es) env = (false, assign (.Name x pos) env) :: assignEach es env := rfl
    rw [e]
    refine ⟨by simp [ih.1], ?_⟩
    rw [List.findIdx?_cons]
    simp [ih.2]
theorem NamesAt.assign {es : List PySem.Expr} {is : List Nat} (hn : NamesAt Γ es is) : ∀ {A : Around} {E : Value → Shared → Prop} {s : Shared} {φ : List Loc} {env : Env} {h₀ : Heap} {ρ : List Addr} {l : List V} {H : Hp} {xs : List V} {vs : List Value} {k : List V → Bool} {Q : Unit → Shared → Prop},
    EnvOK Γ φ env → SR W φ h₀ ρ l H s → VRs ρ xs vs → setMany is xs l k = true → (∀ l' s', SR W φ h₀ ρ l' H s' → k l' = true → Q () s') →
    wpAny (model W.prog W.w) A (assignInOrder ((assignEach es env).map (·.2)) vs) Q E s := by
  induction hn with
  | nil =>
    intro A E s φ env h₀ ρ l H xs vs k Q hE R r h hQ
    cases xs with
    | nil =>
      have h' : k l = true := h
      cases vs with
      | nil => exact wpAny_pure (hQ l s R h')
      | cons v vs => exact r.elim
    | cons x xs => exact absurd h Bool.false_ne_true
  | @cons x pos i es is hx hf hn ih =>
    intro A E s φ env h₀ ρ l H xs vs k Q hE R r h hQ
    cases xs with
    | nil => exact absurd h Bool.false_ne_true
    | cons y ys =>
      cases vs with
      | nil => exact r.elim
      | cons v vs =>
        have h' : setMany is ys (setV y l i) k = true := h
        rw [setV_eq] at h'
        have e : (assignEach (.Name x pos :: es) env).map (·.2) = PySem.assign (.Name x pos) env :: (assignEach es env).map (·.2) := rfl
        rw [e]
        refine wpAny_assignInOrder_more (wpAny_assign_Name (store_slot hE R hx hf r.1 fun s' R' => ?_))
        exact ih hE R' r.2 h' hQ
theorem setMany_len : ∀ {is : List Nat} {xs l : List V} {k : List V → Bool}, setMany is xs l k = true → is.length = xs.length
  | [], [], _, _, _ => rfl
  | [], _ :: _, _, _, h => absurd h Bool.false_ne_true
  | _ :: _, [], _, _, h => absurd h Bool.false_ne_true
  | i :: is, x :: xs, l, k, h => by
    have h' : setMany is xs (setV x l i) k = true := h
    simp [setMany_len h']
/-- a tuple is taken apart into names -/
theorem unpack_names {es : List PySem.Expr} {is : List Nat} (hn : NamesAt Γ es is) {A : Around} {E : Value → Shared → Prop} {s : Shared} {φ : List Loc} {env : Env} {h₀ : Heap} {ρ : List Addr} {l : List V} {H : Hp} {xs : List V} {items : List Value} {a : Addr} {x1 : Nat} {pos : Pos} {k : List V → Bool} {Q : Unit → Shared → Prop}
    (hh : A.handled = none) (hE : EnvOK Γ φ env) (R : SR W φ h₀ ρ l H s) (ht : ∃ n, s.heap.get? a = some { cls := .type "tuple", data := .seq items.toArray n }) (r : VRs ρ xs items) (h : setMany is xs l k = true) (hQ : ∀ l' s', SR W φ h₀ ρ l' H s' → k l' = true → Q () s') :
    wpAny (model W.prog W.w) A (assign (.Tuple es x1 pos) env (.ref a)) Q E s := by
  obtain ⟨nn, e⟩ := ht
  have hT : s.heap.IsTuple a items.toArray := ⟨_, e, rfl, _, rfl⟩
  refine wpAny_assign_Tuple hh hT ?_ (hn.each env).2 fun h' hx => ?_
  · rw [(hn.each env).1, setMany_len h, r.len, List.size_toArray]
  · rw [List.toList_toArray]
    exact hn.assign hE (R.ext fun b o e => hx b o (Nat.ne_of_lt (Heap.lt_size e)) e) r h hQ
end
end Mine
namespace Mine
open PySem PySem.W PyProof.Rows

def freedObj : Obj := { cls := .none, data := .freed }
/-- a heap by its reading -/
def mkHeap (n : Nat) (f : Addr → Option Obj) : Heap := ⟨(Array.range n).map fun i => (f i).getD freedObj, {}⟩
theorem mkHeap_get (n : Nat) (f : Addr → Option Obj) (hf : ∀ a o, f a = some o → o.isFreed = false) (b : Nat) : (mkHeap n f).get? b = if b < n then f b else none := by
  have e : (mkHeap n f).objs[b]? = if b < n then some ((f b).getD freedObj) else none := by
    by_cases h : b < n
    · simp [mkHeap, h]
    · simp [mkHeap, h]
  by_cases h : b < n
  · rw [if_pos h] at e ⊢
    cases q : f b with
    | none =>
      rw [q] at e
      unfold Heap.get?
      rw [e]; rfl
    | some o =>
      rw [q] at e
      exact Heap.get?_some_iff.mpr ⟨e, hf b o q⟩
  · rw [if_neg h] at e ⊢
    unfold Heap.get?
    rw [e]
theorem notFreed {h : Heap} {a : Addr} {o : Obj} (e : h.get? a = some o) : o.isFreed = false := (Heap.get?_some_iff.mp e).2

/-- what stands in h₀, and the objects of pv as they stand in h -/
def guard (h₀ h : Heap) (pv : List Addr) : Heap := mkHeap h.objs.size fun b => if b ∈ pv then h.get? b else h₀.get? b
theorem guard_get {h₀ h : Heap} {pv : List Addr} (hk : ∀ b o, h₀.get? b = some o → h.get? b = some o) (b : Addr) : (guard h₀ h pv).get? b = if b ∈ pv then h.get? b else h₀.get? b := by
  have := mkHeap_get h.objs.size (fun b => if b ∈ pv then h.get? b else h₀.get? b) (fun a o e => by
    by_cases q : a ∈ pv
    · rw [if_pos q] at e; exact notFreed e
    · rw [if_neg q] at e; exact notFreed e) b
  show (mkHeap _ _).get? b = _
  rw [this]
  by_cases hb : @LT.lt Nat _ b h.objs.size
  · rw [if_pos hb]
  · rw [if_neg hb]
    have hn : ∀ o, h.get? b ≠ some o := fun o e => hb (Heap.lt_size e)
    by_cases q : b ∈ pv
    · rw [if_pos q]
      cases e : h.get? b with
      | none => rfl
      | some o => exact absurd e (hn o)
    · rw [if_neg q]
      cases e : h₀.get? b with
      | none => rfl
      | some o => exact absurd (hk b o e) (hn o)
/-- every object but those of ρ -/
def mask (h : Heap) (ρ : List Addr) : Heap := mkHeap h.objs.size fun b => if b ∈ ρ then none else h.get? b
theorem mask_get (h : Heap) (ρ : List Addr) (b : Addr) : (mask h ρ).get? b = if b ∈ ρ then none else h.get? b := by
  have := mkHeap_get h.objs.size (fun b => if b ∈ ρ then none else h.get? b) (fun a o e => by
    by_cases q : a ∈ ρ
    · rw [if_pos q] at e; cases e
    · rw [if_neg q] at e; exact notFreed e) b
  show (mkHeap _ _).get? b = _
  rw [this]
  by_cases hb : @LT.lt Nat _ b h.objs.size
  · rw [if_pos hb]
  · rw [if_neg hb]
    by_cases q : b ∈ ρ
    · rw [if_pos q]
    · rw [if_neg q]
      cases e : h.get? b with
      | none => rfl
      | some o => exact absurd (Heap.lt_size e) hb

section
variable {W : Wd} {φ : List Loc} {h₀ : Heap} {ρ : List Addr} {l : List V} {H : Hp} {s s' : Shared}

/-- addresses of the interpreter's own for a while -/
def PV (pv : List Addr) (φ : List Loc) (h₀ : Heap) (ρ : List Addr) : Prop := ∀ a ∈ pv, a ∉ ρ ∧ h₀.get? a = none ∧ ∀ lc ∈ φ, lc.addr ≠ a

theorem HR.priv {pv : List Addr} (R : HR W h₀ ρ H s) (hp : ∀ a ∈ pv, a ∉ ρ ∧ h₀.get? a = none) (hk : ∀ b o, b ∉ pv → s.heap.get? b = some o → s'.heap.get? b = some o) (hos : s'.os = s.os := by rfl) (hg : s'.gens = s.gens := by rfl) : HR W h₀ ρ H s' :=
  R.chg (fun b o hb e => hk b o (fun hm => by
    rcases hb with hb | hb
    · exact (hp b hm).1 hb
    · rw [(hp b hm).2] at hb; cases hb) e) hos (hg ▸ R.bare)
theorem SR.priv {pv : List Addr} (R : SR W φ h₀ ρ l H s) (hp : PV pv φ h₀ ρ) (hk : ∀ b o, b ∉ pv → s.heap.get? b = some o → s'.heap.get? b = some o) (hos : s'.os = s.os := by rfl) (hg : s'.gens = s.gens := by rfl) : SR W φ h₀ ρ l H s' :=
  ⟨R.h.priv (fun a ha => ⟨(hp a ha).1, (hp a ha).2.1⟩) hk hos hg, R.f.chg (List.prefix_refl _) (fun _ h => .inl h) fun lc h o e => hk _ o (fun hm => (hp _ hm).2.2 lc h rfl) e⟩
theorem HR.guard {pv : List Addr} (R : HR W h₀ ρ H s) (hp : ∀ a ∈ pv, a ∉ ρ) : HR W (guard h₀ s.heap pv) ρ H s := by
  refine ⟨R.len, R.nd, R.obj, R.live, fun b o e => ?_, fun a ha => ?_, fun b o e => ?_, R.os, R.bare, R.bok⟩
  · rw [guard_get R.keep] at e
    by_cases q : b ∈ pv
    · rwa [if_pos q] at e
    · rw [if_neg q] at e; exact R.keep b o e
  · rw [guard_get R.keep, if_neg (fun hm => hp a hm ha)]; exact R.sep a ha
  · rw [guard_get R.keep]
    have := R.base b o e
    by_cases q : b ∈ pv
    · rw [if_pos q]; exact R.keep b o this
    · rw [if_neg q]; exact this
theorem SR.guard {pv : List Addr} (R : SR W φ h₀ ρ l H s) (hp : PV pv φ h₀ ρ) : SR W φ (guard h₀ s.heap pv) ρ l H s :=
  ⟨R.h.guard fun a ha => (hp a ha).1, R.f.len, R.f.ok, R.f.has, R.f.apart, R.f.nρ, fun lc h => by
    rw [guard_get R.h.keep, if_neg (fun hm => (hp _ hm).2.2 lc h rfl)]; exact R.f.n0 lc h⟩
theorem HR.weaken {h₁ : Heap} (R : HR W h₁ ρ H s) (hs : ∀ b o, h₀.get? b = some o → h₁.get? b = some o) (hb : ∀ b o, W.hB.get? b = some o → h₀.get? b = some o) : HR W h₀ ρ H s := by
  refine ⟨R.len, R.nd, R.obj, R.live, fun b o e => R.keep b o (hs b o e), fun a ha => ?_, hb, R.os, R.bare, R.bok⟩
  cases e : h₀.get? a with
  | none => rfl
  | some o => have := hs a o e; rw [R.sep a ha] at this; cases this
theorem SR.weaken {h₁ : Heap} (R : SR W φ h₁ ρ l H s) (hs : ∀ b o, h₀.get? b = some o → h₁.get? b = some o) (hb : ∀ b o, W.hB.get? b = some o → h₀.get? b = some o) : SR W φ h₀ ρ l H s := by
  refine ⟨R.h.weaken hs hb, R.f.len, R.f.ok, R.f.has, R.f.apart, R.f.nρ, fun lc h => ?_⟩
  cases e : h₀.get? lc.addr with
  | none => rfl
  | some o => have := hs _ o e; rw [R.f.n0 lc h] at this; cases this
theorem guard_sub {pv : List Addr} {h : Heap} (hk : ∀ b o, h₀.get? b = some o → h.get? b = some o) : ∀ b o, h₀.get? b = some o → (guard h₀ h pv).get? b = some o := fun b o e => by
  rw [guard_get hk]
  by_cases q : b ∈ pv
  · rw [if_pos q]; exact hk b o e
  · rw [if_neg q]; exact e
/-- behind a run that kept what was guarded -/
theorem guard_back {pv : List Addr} {ρ' : List Addr} {l' : List V} {H' : Hp} (R : HR W h₀ ρ H s) (hp : PV pv φ h₀ ρ) (hlive : ∀ a ∈ pv, ∃ o, s.heap.get? a = some o) (R' : SR W φ (Mine.guard h₀ s.heap pv) ρ' l' H' s') :
    SR W φ h₀ ρ' l' H' s' ∧ PV pv φ h₀ ρ' ∧ (∀ a ∈ pv, ∀ o, s.heap.get? a = some o → s'.heap.get? a = some o) := by
  refine ⟨R'.weaken (guard_sub R.keep) R.base, fun a ha => ⟨fun hm => ?_, (hp a ha).2⟩, fun a ha o e => R'.h.keep a o (by rw [guard_get R.keep, if_pos ha]; exact e)⟩
  obtain ⟨o, e⟩ := hlive a ha
  have h1 := R'.h.sep a hm
  rw [guard_get R.keep, if_pos ha, e] at h1
  cases h1
end
end Mine
namespace Mine
open PySem PySem.W PyProof.Rows
section
variable {W : Wd} {n : Nat} {Γ : Sc}

theorem HR.g {h₀ : Heap} {ρ : List Addr} {H : Hp} {s : Shared} (R : HR W h₀ ρ H s) : s.heap.Ns mainGlobals W.mg := R.bok.g.keeps R.baseS
theorem HR.b {h₀ : Heap} {ρ : List Addr} {H : Hp} {s : Shared} (R : HR W h₀ ρ H s) : s.heap.Ns builtinsNs W.mb := R.bok.b.keeps R.baseS

/-- a name of the module's -/
theorem load_glob {A : Around} {E : Value → Shared → Prop} {s : Shared} {env : Env} {φ : List Loc} {h₀ : Heap} {ρ : List Addr} {H : Hp} {x : Str} {pos : Pos} {v : Value} {Q : Value → Shared → Prop}
    (hE : EnvOK Γ φ env) (R : HR W h₀ ρ H s) (hx : Γ.sc.names.lookup x = some .globalImplicit) (hv : W.mg x = some v) (hd : (x == ("__debug__" : Str)) = false) (h : Q v s) :
    wpAny (model W.prog W.w) A (eval (.Name x pos) env) Q E s :=
  Calls.Name_function_global (by rw [hE.sc]; exact hE.kind) (by show env.scope.names.lookup x = _; rw [hE.sc]; exact hx)
    (Calls.loadGlobal_global (by rw [hE.glob]; exact R.g) hv h) hd
/-- a name of the builtins -/
theorem load_bi {A : Around} {E : Value → Shared → Prop} {s : Shared} {env : Env} {φ : List Loc} {h₀ : Heap} {ρ : List Addr} {H : Hp} {x : Str} {pos : Pos} {v : Value} {Q : Value → Shared → Prop}
    (hE : EnvOK Γ φ env) (R : HR W h₀ ρ H s) (hx : Γ.sc.names.lookup x = some .globalImplicit) (hm : x ∈ biNames) (hv : bootBuiltins x = some v) (hn : x ≠ "__name__") (hd : (x == ("__debug__" : Str)) = false) (h : Q v s) :
    wpAny (model W.prog W.w) A (eval (.Name x pos) env) Q E s :=
  Calls.Name_function_global (by rw [hE.sc]; exact hE.kind) (by show env.scope.names.lookup x = _; rw [hE.sc]; exact hx)
    (Calls.loadGlobal_builtin (by rw [hE.glob]; exact R.g) (R.bok.bi x hm) (by rw [hE.bi]; exact R.b) ((R.bok.bb x hn).trans hv) h) hd

/-- a builtin function of plain arguments -/
theorem Refs.args {es : List PySem.Expr} {Fs : List C} (r : Refs W n Γ es Fs) {pos : Pos} {f : Value} {A : Around} {E : Value → Shared → Prop} {s : Shared} {h₀ : Heap} {ρ : List Addr} {φ : List Loc} {env : Env} {l : List V} {H : Hp} {k : List V → Hp → Bool} {Q : Args → Shared → Prop}
    (hR : Room n A) (hE : EnvOK Γ φ env) (R : SR W φ h₀ ρ l H s) (h : evs Fs l H k = true) (hP : Posts W φ h₀ ρ l k fun vs s' => Q ⟨vs, []⟩ s') :
    wpAny (model W.prog W.w) A (evalArgs f true (backTo pos (starEach es env)) []) Q E s ∧ (backTo pos (starEach es env)).any (·.1) = false := by
  cases r with
  | nil => exact ⟨PyProof.Rows.evalArgs_none (hP [] [] ρ H s (List.prefix_refl _) R trivial h), rfl⟩
  | @cons e F es Fs he hs hr =>
    have e1 : backTo pos (starEach (e :: es) env) = (false, eval e env) :: backTo pos (starEach es env) := by rw [hs es env]; rfl
    have := (Refs.cons he hs hr).spliced (A := A) (E := E) (pos := pos) (k := k) (Q := fun vs s' => Q ⟨vs, []⟩ s') hR hE R h hP
    rw [e1] at this ⊢
    refine ⟨Calls.evalArgs_plain this, ?_⟩
    show (false || (backTo pos (starEach es env)).any (·.1)) = false
    have : ∀ {es : List PySem.Expr} {Fs : List C}, Refs W n Γ es Fs → (backTo pos (starEach es env)).any (·.1) = false := by
      intro es Fs r
      induction r with
      | nil => rfl
      | @cons e F es Fs he hs hr ih =>
        rw [hs es env]
        show (false || (backTo pos (starEach es env)).any (·.1)) = false
        rw [ih]; rfl
    rw [this hr]; rfl

/-- what a call's callee is -/
structure BiFn (Γ : Sc) (x : Str) (v : Value) : Prop where
  kind : Γ.sc.names.lookup x = some .globalImplicit
  mem : x ∈ biNames
  val : bootBuiltins x = some v
  nn : x ≠ "__name__"
  nd : (x == ("__debug__" : Str)) = false

theorem Call_builtin {x : Str} {id : String} (b : BiFn Γ x (.builtin id)) {es : List PySem.Expr} {Fs : List C} (r : Refs W n Γ es Fs) {p pos : Pos} {A : Around} {E : Value → Shared → Prop} {s : Shared} {h₀ : Heap} {ρ : List Addr} {φ : List Loc} {env : Env} {l : List V} {H : Hp} {k : List V → Hp → Bool} {Q : Value → Shared → Prop}
    (hR : Room n A) (hE : EnvOK Γ φ env) (R : SR W φ h₀ ρ l H s) (h : evs Fs l H k = true)
    (hP : Posts W φ h₀ ρ l k fun vs s' => wpAny (model W.prog W.w) A (call (.builtin id) vs) Q E s') : wpAny (model W.prog W.w) A (eval (.Call (.Name x p) es [] pos) env) Q E s := by
  refine wpAny_Call_NameR (load_bi hE R.h b.kind b.mem b.val b.nn b.nd ?_)
  have := r.args (pos := pos) (f := .builtin id) (Q := fun a s₁ => wpAny (model W.prog W.w) A (call (.builtin id) ([] ++ a.pos) a.kw) Q E s₁) (E := E) hR hE R h hP
  exact Calls.callWith_builtin this.2 this.1
theorem Call_type {x : Str} {T : String} (b : BiFn Γ x (.type T)) {es : List PySem.Expr} {Fs : List C} (r : Refs W n Γ es Fs) {p pos : Pos} {A : Around} {E : Value → Shared → Prop} {s : Shared} {h₀ : Heap} {ρ : List Addr} {φ : List Loc} {env : Env} {l : List V} {H : Hp} {k : List V → Hp → Bool} {Q : Value → Shared → Prop}
    (hR : Room n A) (hE : EnvOK Γ φ env) (R : SR W φ h₀ ρ l H s) (h : evs Fs l H k = true)
    (hP : Posts W φ h₀ ρ l k fun vs s' => wpAny (model W.prog W.w) A (call (.type T) vs) Q E s') : wpAny (model W.prog W.w) A (eval (.Call (.Name x p) es [] pos) env) Q E s := by
  refine wpAny_Call_NameR (load_bi hE R.h b.kind b.mem b.val b.nn b.nd ?_)
  have := r.args (pos := pos) (f := .type T) (Q := fun a s₁ => wpAny (model W.prog W.w) A (call (.type T) ([] ++ a.pos) a.kw) Q E s₁) (E := E) hR hE R h hP
  exact PyProof.Rows.callWith_type this.2 this.1
def one (k : K) : List V → Hp → Bool | [v], h => k v h | _, _ => false
def two (k : V → V → Hp → Bool) : List V → Hp → Bool | [v, w], h => k v w h | _, _ => false
def three (k : V → V → V → Hp → Bool) : List V → Hp → Bool | [v, w, x], h => k v w x h | _, _ => false
theorem evs1 {F : C} {l : List V} {H : Hp} {k : K} (h : F l H k = true) : evs [F] l H (one k) = true := h
theorem evs2 {F G : C} {l : List V} {H : Hp} {k : V → V → Hp → Bool} (h : F l H (fun a h => G l h fun b h => k a b h) = true) : evs [F, G] l H (two k) = true := h
theorem evs3 {F G J : C} {l : List V} {H : Hp} {k : V → V → V → Hp → Bool} (h : F l H (fun a h => G l h fun b h => J l h fun c h => k a b c h) = true) : evs [F, G, J] l H (three k) = true := h
theorem one_of {ρ : List Addr} {x : List V} {v : List Value} {H : Hp} {k : K} (r : VRs ρ x v) (h : one k x H = true) : ∃ a b, x = [a] ∧ v = [b] ∧ VR ρ a b ∧ k a H = true := by
  match x, v, r, h with
  | [a], [b], r, h => exact ⟨a, b, rfl, rfl, r.1, h⟩
  | [a], _ :: _ :: _, r, h => exact r.2.elim
  | [], _, r, h => exact absurd h Bool.false_ne_true
  | _ :: _ :: _, _, r, h => exact absurd h Bool.false_ne_true
theorem two_of {ρ : List Addr} {x : List V} {v : List Value} {H : Hp} {k : V → V → Hp → Bool} (r : VRs ρ x v) (h : two k x H = true) : ∃ a b c d, x = [a, b] ∧ v = [c, d] ∧ VR ρ a c ∧ VR ρ b d ∧ k a b H = true := by
  match x, v, r, h with
  | [a, b], [c, d], r, h => exact ⟨a, b, c, d, rfl, rfl, r.1, r.2.1, h⟩
  | [a, b], [_], r, h => exact r.2.elim
  | [a, b], _ :: _ :: _ :: _, r, h => exact r.2.2.elim
  | [], _, r, h => exact absurd h Bool.false_ne_true
  | [_], _, r, h => exact absurd h Bool.false_ne_true
  | _ :: _ :: _ :: _, _, r, h => exact absurd h Bool.false_ne_true
theorem three_of {ρ : List Addr} {x : List V} {v : List Value} {H : Hp} {k : V → V → V → Hp → Bool} (r : VRs ρ x v) (h : three k x H = true) :
    ∃ a b c d e f, x = [a, b, c] ∧ v = [d, e, f] ∧ VR ρ a d ∧ VR ρ b e ∧ VR ρ c f ∧ k a b c H = true := by
  match x, v, r, h with
  | [a, b, c], [d, e, f], r, h => exact ⟨a, b, c, d, e, f, rfl, rfl, r.1, r.2.1, r.2.2.1, h⟩
  | [a, b, _], [_], r, h => exact r.2.elim
  | [a, b, _], [_, _], r, h => exact r.2.2.elim
  | [a, b, _], _ :: _ :: _ :: _ :: _, r, h => exact r.2.2.2.elim
  | [], _, r, h => exact absurd h Bool.false_ne_true
  | [_], _, r, h => exact absurd h Bool.false_ne_true
  | [_, _], _, r, h => exact absurd h Bool.false_ne_true
  | _ :: _ :: _ :: _ :: _, _, r, h => exact absurd h Bool.false_ne_true
theorem plain1 {a : PySem.Expr} {F : C} (ha : Ref W n Γ a F) (hs : ∀ (rest : List PySem.Expr) (env : Env), starEach (a :: rest) env = (false, eval a env) :: starEach rest env := by intro _ _; rfl) : Refs W n Γ [a] [F] := .cons ha hs .nil
theorem plain2 {a b : PySem.Expr} {F G : C} (ha : Ref W n Γ a F) (hb : Ref W n Γ b G) (hs : ∀ (rest : List PySem.Expr) (env : Env), starEach (a :: rest) env = (false, eval a env) :: starEach rest env := by intro _ _; rfl) (hs' : ∀ (rest : List PySem.Expr) (env : Env), starEach (b :: rest) env = (false, eval b env) :: starEach rest env := by intro _ _; rfl) : Refs W n Γ [a, b] [F, G] := .cons ha hs (.cons hb hs' .nil)
/-- one argument -/
theorem Ref.bi1 {x : Str} {id : String} {o : O1} {a : PySem.Expr} {F : C} {p pos : Pos} (b : BiFn Γ x (.builtin id)) (ho : Op1 W n o (fun v => call (.builtin id) [v])) (ha : Ref W n Γ a F)
    (hs : ∀ (rest : List PySem.Expr) (env : Env), starEach (a :: rest) env = (false, eval a env) :: starEach rest env := by intro _ _; rfl) : Ref W n Γ (.Call (.Name x p) [a] [] pos) (cOp1 o F) := by
  intro A E s h₀ ρ φ env l H k Q hR hE R h hP
  refine Call_builtin b (plain1 ha hs) hR hE R (evs1 h) fun v x ρ₁ H₁ s₁ p₁ R₁ r₁ h₁ => ?_
  obtain ⟨a, b, rfl, rfl, r, h₂⟩ := one_of r₁ h₁
  exact ho A E s₁ h₀ ρ₁ φ l H₁ k Q b a hR R₁ r h₂ (hP.mono p₁)
theorem Ref.ty1 {x : Str} {T : String} {o : O1} {a : PySem.Expr} {F : C} {p pos : Pos} (b : BiFn Γ x (.type T)) (ho : Op1 W n o (fun v => call (.type T) [v])) (ha : Ref W n Γ a F)
    (hs : ∀ (rest : List PySem.Expr) (env : Env), starEach (a :: rest) env = (false, eval a env) :: starEach rest env := by intro _ _; rfl) : Ref W n Γ (.Call (.Name x p) [a] [] pos) (cOp1 o F) := by
  intro A E s h₀ ρ φ env l H k Q hR hE R h hP
  refine Call_type b (plain1 ha hs) hR hE R (evs1 h) fun v x ρ₁ H₁ s₁ p₁ R₁ r₁ h₁ => ?_
  obtain ⟨a, b, rfl, rfl, r, h₂⟩ := one_of r₁ h₁
  exact ho A E s₁ h₀ ρ₁ φ l H₁ k Q b a hR R₁ r h₂ (hP.mono p₁)
end
end Mine
namespace Mine
open PySem PySem.W PyProof.Rows

theorem PV.fresh {W : Wd} {φ : List Loc} {h₀ : Heap} {ρ : List Addr} {l : List V} {H : Hp} {s : Shared} (R : SR W φ h₀ ρ l H s) {pv : List Addr} (hf : ∀ a ∈ pv, (s.heap.objs.size : Nat) ≤ a) : PV pv φ h₀ ρ := by
  intro a ha
  have hf := hf a ha
  refine ⟨fun hm => ?_, ?_, fun lc hl e => ?_⟩
  · obtain ⟨o, e⟩ := R.h.live a hm
    have : @LT.lt Nat _ a s.heap.objs.size := Heap.lt_size e
    omega
  · cases e : h₀.get? a with
    | none => rfl
    | some o =>
      have : @LT.lt Nat _ a s.heap.objs.size := Heap.lt_size (R.h.keep a o e)
      omega
  · have : @LT.lt Nat _ lc.addr s.heap.objs.size := (R.f.ok lc hl).lt
    rw [e] at this
    omega

def TupAt (h : Heap) (T : Addr) (items : List Value) : Prop := ∃ n, h.get? T = some { cls := .type "tuple", data := .seq items.toArray n }

/-- an iterator, and the stepper that tells what it gives -/
structure IterOK (W : Wd) (I : Addr) (pv : List Addr) (tup : Bool) (ρ₀ : List Addr) (stp : Stp) (Itr : Nat → Heap → Prop) : Prop where
  live : ∀ i h, Itr i h → ∀ a ∈ pv, ∃ o, h.get? a = some o
  frame : ∀ i h h', Itr i h → (∀ a ∈ pv, ∀ o, h.get? a = some o → h'.get? a = some o) → Itr i h'
  mono : ∀ (i : Nat) (H : Hp) (c c' : Option (List V) → Bool), (∀ o, c o = true → c' o = true) → stp i H c = true → stp i H c' = true
  self : ∀ (i : Nat) (A : Around) (E : Value → Shared → Prop) (s : Shared) (Q : Value → Shared → Prop), Itr i s.heap → Q (.ref I) s → wpAny (model W.prog W.w) A (pyIter (.ref I)) Q E s
  next : ∀ (i : Nat) (A : Around) (E : Value → Shared → Prop) (s : Shared) (h₀ : Heap) (ρ : List Addr) (φ : List Loc) (l : List V) (H : Hp) (c : Option (List V) → Bool) (Q : Option Value → Shared → Prop),
    A.handled = none → ρ₀ <+: ρ → SR W φ h₀ ρ l H s → PV pv φ h₀ ρ → Itr i s.heap → stp i H c = true →
    (c none = true → ∀ s', SR W φ h₀ ρ l H s' → Q none s') →
    (∀ (x : V) (v : Value) (s' : Shared), tup = false → c (some [x]) = true → VR ρ x v → SR W φ h₀ ρ l H s' → Itr (i + 1) s'.heap → Q (some v) s') →
    (∀ (xs : List V) (items : List Value) (T : Addr) (s' : Shared), tup = true → c (some xs) = true → VRs ρ xs items → SR W φ h₀ ρ l H s' →
      (∀ (A' : Around) (E' : Value → Shared → Prop) (elts : List PySem.Expr) (x1 : Nat) (pos : Pos) (Q' : Unit → Shared → Prop), (∀ s'', SR W φ h₀ ρ l H s'' → TupAt s''.heap T items → Itr (i + 1) s''.heap → Q' () s'') →
        wpAny (model W.prog W.w) A' (letOwnedTupleGo (.Tuple elts x1 pos) (.ref I) (.ref T)) Q' E' s') → Q (some (.ref T)) s') →
    wpAny (model W.prog W.w) A (pyNext (.ref I)) Q E s

/-- what stands behind «in» -/
structure RefIt (W : Wd) (n : Nat) (Γ : Sc) (e : PySem.Expr) (tup : Bool) (it : It) : Prop where
  fold : ∀ (env : Env) (x : Value), foldedSetIterable e env x = pure x
  run : ∀ (A : Around) (E : Value → Shared → Prop) (s : Shared) (h₀ : Heap) (ρ : List Addr) (φ : List Loc) (env : Env) (l : List V) (H : Hp) (k : Nat → Stp → Hp → Bool) (Q : Value → Shared → Prop),
    Room n A → EnvOK Γ φ env → SR W φ h₀ ρ l H s → it l H k = true →
    (∀ (ρ' : List Addr) (H' : Hp) (s' : Shared) (I : Addr) (pv : List Addr) (cnt : Nat) (stp : Stp) (Itr : Nat → Heap → Prop), ρ <+: ρ' → SR W φ h₀ ρ' l H' s' → PV pv φ h₀ ρ' → IterOK W I pv tup ρ' stp Itr → Itr 0 s'.heap → k cnt stp H' = true → Q (.ref I) s') →
    wpAny (model W.prog W.w) A (eval e env) (fun x s₁ => wpAny (model W.prog W.w) A (pyIter x) Q E s₁) E s

section
variable {W : Wd} {n : Nat} {Γ : Sc}

theorem HR.listAt' {h₀ : Heap} {ρ₀ ρ : List Addr} {H : Hp} {s : Shared} {k : Nat} {vs : List V} {adr : Addr} (R : HR W h₀ ρ H s) (hp : ρ₀ <+: ρ) (ha : ρ₀[k]? = some adr) (e : H.t.get k = some (.list vs)) :
    ∃ items, s.heap.IsList adr items.toArray ∧ VRs ρ vs items := by
  obtain ⟨a, items, e1, h1, h2, h3⟩ := R.listAt (v := .ref adr) e ⟨adr, get_pre hp ha, rfl⟩
  cases e1
  exact ⟨items, PlainList.isList h2, h3⟩
theorem asList_ref {k : Nat} {H : Hp} {c : List V → Bool} (h : asList (.ref k) H c = true) : ∃ vs, H.t.get k = some (.list vs) ∧ c vs = true := by
  obtain ⟨a, vs, e, h1, h2⟩ := asList_of h
  cases e
  exact ⟨vs, h1, h2⟩

theorem asList_mono {v : V} {H : Hp} {c c' : List V → Bool} (h : asList v H c = true) (hc : ∀ vs, c vs = true → c' vs = true) : asList v H c' = true := by
  obtain ⟨a, vs, rfl, e, h1⟩ := asList_of h
  show (match H.t.get a with | some (.list vs) => c' vs | _ => false) = true
  rw [e]; exact hc vs h1
theorem asTup_mono {v : V} {H : Hp} {c c' : List V → Bool} (h : asTup v H c = true) (hc : ∀ vs, c vs = true → c' vs = true) : asTup v H c' = true := by
  obtain ⟨a, vs, rfl, e, h1⟩ := asTup_of h
  show (match H.t.get a with | some (.tup vs) => c' vs | _ => false) = true
  rw [e]; exact hc vs h1
theorem asDictE_mono {v : V} {H : Hp} {c c' : Nat → List (Tx × V) → Bool} (h : asDictE v H c = true) (hc : ∀ ep vs, c ep vs = true → c' ep vs = true) : asDictE v H c' = true := by
  obtain ⟨a, ep, vs, rfl, e, h1⟩ := asDictE_of h
  show (match H.t.get a with | some (.dict ep vs) => c' ep vs | _ => false) = true
  rw [e]; exact hc ep vs h1
theorem chk_mono {b c c' : Bool} (h : chk b c = true) (hc : c = true → c' = true) : chk b c' = true := by
  cases b
  · exact h
  · exact hc h
theorem IterOK.list {ρ₀ : List Addr} {k : Nat} {adr I : Addr} (ha : ρ₀[k]? = some adr) (hne : I ∉ ρ₀) :
    IterOK W I [I] false ρ₀ (fun i h c => asList (.ref k) h fun vs => match nthO vs i with | some x => c (some [x]) | .none => c .none) (fun i h => h.IsListIter I adr i) where
  live i h x a hm := by
    rw [List.mem_singleton] at hm; subst hm
    obtain ⟨o, e, _⟩ := x; exact ⟨o, e⟩
  frame i h h' x hk := by
    obtain ⟨o, e, r⟩ := x
    exact ⟨o, hk I (by simp) o e, r⟩
  mono i H c c' hc h := asList_mono h fun vs h => by
    skip
    cases q : nthO vs i with
    | none => rw [q] at h; exact hc _ h
    | some x => rw [q] at h; exact hc _ h
  self i A E s Q x h := wpAny_pyIter_listiter x h
  next i A E s h₀ ρ φ l H c Q hh hp R hv x hs hend h1 h2 := by
    obtain ⟨vs, e, hc⟩ := asList_ref hs
    obtain ⟨items, hL, hr⟩ := R.h.listAt' hp ha e
    rw [nthO_eq] at hc
    cases q : vs[i]? with
    | none =>
      rw [q] at hc
      refine wpAny_pyNext_list_end hh x hL (by rw [List.getElem?_toArray]; rw [List.getElem?_eq_none_iff] at q ⊢; rw [← hr.len]; exact q) fun h' he => hend hc _ (R.priv hv fun b o hb e => he b o (fun q => hb (by simp [q])) e)
    | some y =>
      rw [q] at hc
      obtain ⟨v, hv1, hv2⟩ := hr.get q
      exact wpAny_pyNext_list_item x hL (by simpa using hv1) fun h' hi hsb => h1 y v _ rfl hc hv2 (R.priv hv fun b o hb e => hsb.extBut b o (fun q => hb (by simp [q])) e) hi
theorem tupIn_of {x : V} {H : Hp} {m : Nat} {c : Option (List V) → Bool} (h : tupIn x H m c = true) : ∃ k ws, x = .ref k ∧ H.t.get k = some (.tup ws) ∧ c (some ws) = true := by
  obtain ⟨k, ws, rfl, e, h1⟩ := asTup_of h
  rcases rec_tt h1 with ⟨_, h2⟩ | ⟨_, h2⟩
  · exact ⟨k, ws, rfl, e, h2⟩
  · cases h2
theorem IterOK.listT {ρ₀ : List Addr} {k m : Nat} {adr I : Addr} (ha : ρ₀[k]? = some adr) (hne : I ∉ ρ₀) :
    IterOK W I [I] true ρ₀ (fun i h c => asList (.ref k) h fun vs => match nthO vs i with | some x => tupIn x h m c | .none => c .none) (fun i h => h.IsListIter I adr i) where
  live i h x a hm := by
    rw [List.mem_singleton] at hm; subst hm
    obtain ⟨o, e, _⟩ := x; exact ⟨o, e⟩
  frame i h h' x hk := by
    obtain ⟨o, e, r⟩ := x
    exact ⟨o, hk I (by simp) o e, r⟩
  mono i H c c' hc h := asList_mono h fun vs h => by
    skip
    cases q : nthO vs i with
    | none => rw [q] at h; exact hc _ h
    | some x =>
      rw [q] at h
      refine asTup_mono h fun ws h => ?_
      rcases rec_tt h with ⟨h1, h2⟩ | ⟨_, h2⟩
      · rw [h1]; exact hc _ h2
      · cases h2
  self i A E s Q x h := wpAny_pyIter_listiter x h
  next i A E s h₀ ρ φ l H c Q hh hp R hv x hs hend h1 h2 := by
    obtain ⟨vs, e, hc⟩ := asList_ref hs
    obtain ⟨items, hL, hr⟩ := R.h.listAt' hp ha e
    rw [nthO_eq] at hc
    cases q : vs[i]? with
    | none =>
      rw [q] at hc
      refine wpAny_pyNext_list_end hh x hL (by rw [List.getElem?_toArray]; rw [List.getElem?_eq_none_iff] at q ⊢; rw [← hr.len]; exact q) fun h' he => hend hc _ (R.priv hv fun b o hb e => he b o (fun q => hb (by simp [q])) e)
    | some y =>
      rw [q] at hc
      obtain ⟨v, hv1, hv2⟩ := hr.get q
      refine wpAny_pyNext_list_item x hL (by simpa using hv1) fun h' hi hsb => ?_
      obtain ⟨kt, ws, rfl, et, hc⟩ := tupIn_of hc
      have R' : SR W φ h₀ ρ l H { s with heap := h' } := R.priv hv fun b o hb e => hsb.extBut b o (fun q => hb (by simp [q])) e
      obtain ⟨T, tis, rfl, hT, hTup, hvs⟩ := R'.h.tupAt et hv2
      exact h2 ws tis T _ rfl hc hvs R' fun A' E' elts x1 pos Q' hQ' => wpAny_letOwnedTupleGo_listiter hi (hQ' _ R' hTup hi)
theorem RefIt.list {e : PySem.Expr} {F : C} (he : Ref W n Γ e F) (hf : ∀ (env : Env) (x : Value), foldedSetIterable e env x = pure x := by intro _ _; rfl) : RefIt W n Γ e false (iList F) where
  fold := hf
  run A E s h₀ ρ φ env l H k Q hR hE R h hP := by
    refine he A E s h₀ ρ φ env l H _ _ hR hE R h fun v x ρ₁ H₁ s₁ p₁ R₁ r₁ h₁ => ?_
    obtain ⟨j, vs, rfl, e, h'⟩ := asList_of h₁
    obtain ⟨adr, items, rfl, ha, hp, hv⟩ := R₁.h.listAt e r₁
    refine wpAny_pyIter_list (PlainList.isList hp) ?_
    have R₂ := R₁.push { cls := .type "list_iterator", data := .fields #[.ref adr, .int 0 0] } s₁.toks
    have fr : PV [s₁.heap.objs.size] φ h₀ ρ₁ := PV.fresh R₁ (by simp)
    exact hP ρ₁ H₁ _ s₁.heap.objs.size [s₁.heap.objs.size] _ _ _ p₁ R₂ fr (IterOK.list ha (fr _ (by simp)).1) ⟨_, Heap.get?_push_size _ rfl, rfl, rfl⟩ h'
theorem RefIt.listT {e : PySem.Expr} {F : C} {m : Nat} (he : Ref W n Γ e F) (hf : ∀ (env : Env) (x : Value), foldedSetIterable e env x = pure x := by intro _ _; rfl) : RefIt W n Γ e true (iListT m F) where
  fold := hf
  run A E s h₀ ρ φ env l H k Q hR hE R h hP := by
    refine he A E s h₀ ρ φ env l H _ _ hR hE R h fun v x ρ₁ H₁ s₁ p₁ R₁ r₁ h₁ => ?_
    obtain ⟨j, vs, rfl, e, h'⟩ := asList_of h₁
    obtain ⟨adr, items, rfl, ha, hp, hv⟩ := R₁.h.listAt e r₁
    refine wpAny_pyIter_list (PlainList.isList hp) ?_
    have R₂ := R₁.push { cls := .type "list_iterator", data := .fields #[.ref adr, .int 0 0] } s₁.toks
    have fr : PV [s₁.heap.objs.size] φ h₀ ρ₁ := PV.fresh R₁ (by simp)
    exact hP ρ₁ H₁ _ s₁.heap.objs.size [s₁.heap.objs.size] _ _ _ p₁ R₂ fr (IterOK.listT ha (fr _ (by simp)).1) ⟨_, Heap.get?_push_size _ rfl, rfl, rfl⟩ h'

-- ranges
theorem IterOK.range {ρ₀ : List Addr} {I : Addr} (m k : Nat) :
    IterOK W I [I] false ρ₀ (fun i _ c => @Bool.rec (fun _ => Bool) (c .none) (c (some [.int (Int.ofNat (m + i))])) (Nat.blt (m + i) k)) (fun i h => IsRangeIter h I ((m + i : Nat) : Int) ((k - (m + i) : Nat) : Int) 1) where
  live i h x a hm := by rw [List.mem_singleton] at hm; subst hm; exact ⟨_, x⟩
  frame i h h' x hk := hk I (by simp) _ x
  mono i H c c' hc h := by
    rcases rec_tt h with ⟨h1, h2⟩ | ⟨h1, h2⟩
    · rw [h1]; exact hc _ h2
    · rw [h1]; exact hc _ h2
  self i A E s Q x h := wpAny_pyIter_rangeiter x h
  next i A E s h₀ ρ φ l H c Q hh hp R hv x hs hend h1 h2 := by
    rcases rec_tt hs with ⟨q, hc⟩ | ⟨q, hc⟩
    · have q := PySem.W.Z.blt_iff.mp q
      refine wpAny_pyNext_range_item x (by omega) fun h' hi hsb => h1 _ _ _ rfl hc ⟨_, rfl⟩ ((R.priv hv (s' := { s with heap := h' }) fun b o hb e => hsb.extBut b o (fun q => hb (by simp [q])) e).tok _) ?_
      have e1 : ((m + (i + 1) : Nat) : Int) = ((m + i : Nat) : Int) + 1 := by omega
      have e2 : ((k - (m + (i + 1)) : Nat) : Int) = ((k - (m + i) : Nat) : Int) - 1 := by omega
      show IsRangeIter h' I _ _ _
      rw [e2, e1]; exact hi
    · have q : ¬ m + i < k := fun h => by rw [PySem.W.Z.blt_iff.mpr h] at q; cases q
      exact wpAny_pyNext_range_end hh x (by omega) fun h' he => hend hc _ (R.priv hv fun b o hb e => he b o (fun q => hb (by simp [q])) e)
theorem range_it {A : Around} {E : Value → Shared → Prop} {s₁ : Shared} {φ : List Loc} {h₀ : Heap} {ρ₁ : List Addr} {l : List V} {H₁ : Hp} {r : Addr} {m k : Nat} {t u v : Tok} {Q : Value → Shared → Prop}
    (R : SR W φ h₀ ρ₁ l H₁ s₁) (hr : IsRange s₁.heap r m k 1 t u v) (hm : m < 4096) (hk : k < 4096)
    (hQ : ∀ s' I, SR W φ h₀ ρ₁ l H₁ s' → PV [I] φ h₀ ρ₁ → IsRangeIter s'.heap I ((m + 0 : Nat) : Int) ((k - (m + 0) : Nat) : Int) 1 → Q (.ref I) s') : wpAny (model W.prog W.w) A (pyIter (.ref r)) Q E s₁ := by
  refine wpAny_pyIter_range hr (small_one (by omega) (by omega) (by omega) (by omega)) ?_
  refine hQ _ _ (R.push _ s₁.toks) (PV.fresh R (by simp)) ?_
  have : Builtin.Range.rangeSize (m : Int) (k : Int) 1 = ((k - m : Nat) : Int) := by rw [rangeSize_one]; split <;> omega
  rw [this]
  exact Heap.get?_push_size _ rfl
theorem RefIt.range {e : PySem.Expr} {F : C} {x : Str} {p pos : Pos} (b : BiFn Γ x (.type "range")) (he : Ref W n Γ e F) (hs : ∀ (rest : List PySem.Expr) (env : Env), starEach (e :: rest) env = (false, eval e env) :: starEach rest env := by intro _ _; rfl)
    (hf : ∀ (env : Env) (v : Value), foldedSetIterable (.Call (.Name x p) [e] [] pos) env v = pure v := by intro _ _; rfl) : RefIt W n Γ (.Call (.Name x p) [e] [] pos) false (iRange F) where
  fold := hf
  run A E s h₀ ρ φ env l H k Q hR hE R h hP := by
    refine Call_type b (plain1 he hs) hR hE R (evs1 h) fun v x ρ₁ H₁ s₁ p₁ R₁ r₁ h₁ => ?_
    obtain ⟨a, w, rfl, rfl, r, h₂⟩ := one_of r₁ h₁
    obtain ⟨m, rfl, h₃⟩ := asNat_of h₂
    obtain ⟨hc, h₄⟩ := chk_of h₃
    have hm := PySem.W.Z.blt_iff.mp hc
    obtain ⟨t, rfl⟩ := r
    refine call_range_1 ?_
    refine range_it (m := 0) (R₁.push _ (s₁.toks + 1 + 1)) (IsRange.new ..) (by omega) hm fun s' I R' hv hi => ?_
    have ok := IterOK.range (W := W) (ρ₀ := ρ₁) (I := I) 0 m
    simp only [Nat.zero_add] at ok hi
    exact hP ρ₁ H₁ s' I [I] _ _ _ p₁ R' hv ok hi h₄
theorem RefIt.range2 {e f : PySem.Expr} {F G : C} {x : Str} {p pos : Pos} (b : BiFn Γ x (.type "range")) (he : Ref W n Γ e F) (hf : Ref W n Γ f G) (hs : ∀ (rest : List PySem.Expr) (env : Env), starEach (e :: rest) env = (false, eval e env) :: starEach rest env := by intro _ _; rfl)
    (hs' : ∀ (rest : List PySem.Expr) (env : Env), starEach (f :: rest) env = (false, eval f env) :: starEach rest env := by intro _ _; rfl)
    (hfold : ∀ (env : Env) (v : Value), foldedSetIterable (.Call (.Name x p) [e, f] [] pos) env v = pure v := by intro _ _; rfl) : RefIt W n Γ (.Call (.Name x p) [e, f] [] pos) false (iRange2 F G) where
  fold := hfold
  run A E s h₀ ρ φ env l H k Q hR hE R h hP := by
    refine Call_type b (plain2 he hf hs hs') hR hE R (evs2 h) fun v x ρ₁ H₁ s₁ p₁ R₁ r₁ h₁ => ?_
    obtain ⟨a, a', w, w', rfl, rfl, r, r', h₂⟩ := two_of r₁ h₁
    obtain ⟨m, rfl, h₃⟩ := asNat_of h₂
    obtain ⟨m', rfl, h₄⟩ := asNat_of h₃
    obtain ⟨hc, h₅⟩ := chk_of h₄
    obtain ⟨hc', h₆⟩ := chk_of h₅
    have hm := PySem.W.Z.blt_iff.mp hc
    have hm' := PySem.W.Z.blt_iff.mp hc'
    obtain ⟨t, rfl⟩ := r
    obtain ⟨t', rfl⟩ := r'
    refine call_range_2 ?_
    exact range_it (R₁.push _ (s₁.toks + 1)) (IsRange.new ..) hm hm' fun s' I R' hv hi => hP ρ₁ H₁ s' I [I] _ _ _ p₁ R' hv (IterOK.range m m') hi h₆

-- enumerate
theorem IterOK.enum {ρ₀ : List Addr} {k : Nat} {adr e it : Addr} (ha : ρ₀[k]? = some adr) (hne : e ≠ it) :
    IterOK W e [e, it] true ρ₀ (fun i h c => asList (.ref k) h fun vs => match nthO vs i with | some x => c (some [.int (Int.ofNat i), x]) | .none => c .none) (fun i h => (∃ old, IsEnum h e it ((i : Nat) : Int) old) ∧ h.IsListIter it adr i) where
  live i h x a hm := by
    obtain ⟨⟨old, x1⟩, o, e1, _⟩ := x
    rcases List.mem_cons.mp hm with rfl | hm
    · exact ⟨_, x1⟩
    · rw [List.mem_singleton] at hm; subst hm; exact ⟨o, e1⟩
  frame i h h' x hk := by
    obtain ⟨⟨old, x1⟩, o, e1, r⟩ := x
    exact ⟨⟨old, hk e (by simp) _ x1⟩, o, hk it (by simp) o e1, r⟩
  mono i H c c' hc h := asList_mono h fun vs h => by
    skip
    cases q : nthO vs i with
    | none => rw [q] at h; exact hc _ h
    | some x => rw [q] at h; exact hc _ h
  self i A E s Q x h := by obtain ⟨⟨old, x1⟩, _⟩ := x; exact wpAny_pyIter_enum x1 h
  next i A E s h₀ ρ φ l H c Q hh hp R hv x hs hend h1 h2 := by
    obtain ⟨⟨old, z1⟩, x2⟩ := x
    obtain ⟨vs, eL, hc⟩ := asList_ref hs
    obtain ⟨items, hL, hr⟩ := R.h.listAt' hp ha eL
    rw [nthO_eq] at hc
    cases q : vs[i]? with
    | none =>
      rw [q] at hc
      refine wpAny_pyNext_enum_end hh z1 x2 hL (by rw [List.getElem?_toArray]; rw [List.getElem?_eq_none_iff] at q ⊢; rw [← hr.len]; exact q) fun h' he => hend hc _ (R.priv hv fun b o hb e => he b o (fun q => hb (by simp [q])) e)
    | some y =>
      rw [q] at hc
      obtain ⟨v, hv1, hv2⟩ := hr.get q
      refine wpAny_pyNext_enum_item z1 x2 hL (by simpa using hv1) hne fun h' ho hi ht hz hk => ?_
      have R' : SR W φ h₀ ρ l H { s with heap := h', toks := s.toks + 1 } := (R.priv hv (s' := { s with heap := h' }) fun b o hb e => hk b o (fun q => hb (by simp [q])) (fun q => hb (by simp [q])) e).tok _
      refine h2 _ [.int i s.toks, v] _ _ rfl hc ⟨⟨_, rfl⟩, hv2, trivial⟩ R' fun A' E' elts x1 pos Q' hQ' => ?_
      refine wpAny_letOwnedTupleGo_enum ho fun h'' he'' hs'' => hQ' _ (R'.priv hv fun b o hb e => hs''.extBut b o (fun q => hb (by simp [q])) e) ⟨0, hs''.extBut _ _ (fun q => ?_) ht⟩ ⟨⟨v, ?_⟩, hi.extBut hs''.extBut (Ne.symm hne)⟩
      · have : @LT.lt Nat _ e s.heap.objs.size := Heap.lt_size z1
        rw [q] at this
        exact Nat.lt_irrefl _ this
      · have e1 : ((i + 1 : Nat) : Int) = (i : Int) + 1 := by omega
        rw [e1]; exact he''
theorem RefIt.enum {e : PySem.Expr} {F : C} {x : Str} {p pos : Pos} (b : BiFn Γ x (.type "enumerate")) (he : Ref W n Γ e F) (hs : ∀ (rest : List PySem.Expr) (env : Env), starEach (e :: rest) env = (false, eval e env) :: starEach rest env := by intro _ _; rfl)
    (hf : ∀ (env : Env) (v : Value), foldedSetIterable (.Call (.Name x p) [e] [] pos) env v = pure v := by intro _ _; rfl) : RefIt W n Γ (.Call (.Name x p) [e] [] pos) true (iEnum F) where
  fold := hf
  run A E s h₀ ρ φ env l H k Q hR hE R h hP := by
    refine Call_type b (plain1 he hs) hR hE R (evs1 h) fun v x ρ₁ H₁ s₁ p₁ R₁ r₁ h₁ => ?_
    obtain ⟨a, w, rfl, rfl, r, h₂⟩ := one_of r₁ h₁
    obtain ⟨j, vs, rfl, e, h₃⟩ := asList_of h₂
    obtain ⟨adr, items, rfl, ha, hp, hv⟩ := R₁.h.listAt e r
    refine call_enumerate_list (PlainList.isList hp) fun h' he' hi' hz hk => ?_
    have R₂ : SR W φ h₀ ρ₁ l H₁ { s₁ with heap := h' } := R₁.ext hk
    have fr : PV [s₁.heap.objs.size + 1, s₁.heap.objs.size] φ h₀ ρ₁ := PV.fresh R₁ (by simp)
    refine wpAny_pyIter_enum (s := { s₁ with heap := h' }) he' ?_
    exact hP ρ₁ H₁ _ _ _ _ _ _ p₁ R₂ fr (IterOK.enum ha (Nat.succ_ne_self _)) ⟨⟨_, he'⟩, hi'⟩ h₃

-- zip
theorem IterOK.zip {ρ₀ : List Addr} {k₁ k₂ : Nat} {l1 l2 z TI TO i1 i2 : Addr} (ha : ρ₀[k₁]? = some l1) (hb : ρ₀[k₂]? = some l2) (D : ZipApart z TI TO i1 i2 l1 l2) :
    IterOK W z [z, TI, TO, i1, i2] true ρ₀ (fun i h c => asList (.ref k₁) h fun vs => asList (.ref k₂) h fun ws => match nthO vs i, nthO ws i with | some x, some y => c (some [x, y]) | _, _ => c .none)
      (fun i h => IsZip h z TI TO .none ∧ IsPair h TI (.ref i1) (.ref i2) ∧ (∃ a b, IsPair h TO a b) ∧ h.IsListIter i1 l1 i ∧ h.IsListIter i2 l2 i) where
  live i h x a hm := by
    obtain ⟨hz, hTI, ⟨a', b', hTO⟩, ⟨o1, e1, _⟩, o2, e2, _⟩ := x
    simp only [List.mem_cons, List.not_mem_nil, or_false] at hm
    rcases hm with rfl | rfl | rfl | rfl | rfl
    · exact ⟨_, hz⟩
    · exact ⟨_, hTI⟩
    · exact ⟨_, hTO⟩
    · exact ⟨_, e1⟩
    · exact ⟨_, e2⟩
  frame i h h' x hk := by
    obtain ⟨hz, hTI, ⟨a', b', hTO⟩, ⟨o1, e1, r1⟩, o2, e2, r2⟩ := x
    exact ⟨hk z (by simp) _ hz, hk TI (by simp) _ hTI, ⟨a', b', hk TO (by simp) _ hTO⟩, ⟨o1, hk i1 (by simp) _ e1, r1⟩, o2, hk i2 (by simp) _ e2, r2⟩
  mono i H c c' hc h := asList_mono h fun vs h => asList_mono h fun ws h => by
    skip
    cases q : nthO vs i with
    | none => rw [q] at h; exact hc _ h
    | some x =>
      rw [q] at h
      cases q' : nthO ws i with
      | none => rw [q'] at h; exact hc _ h
      | some x => rw [q'] at h; exact hc _ h
  self i A E s Q x h := wpAny_pyIter_zip x.1 h
  next i A E s h₀ ρ φ l H c Q hh hp R hv x hs hend h1 h2 := by
    obtain ⟨hz, hTI, ⟨a', b', hTO⟩, x1, x2⟩ := x
    obtain ⟨vs, eL1, hs⟩ := asList_ref hs
    obtain ⟨ws, eL2, hc⟩ := asList_ref hs
    obtain ⟨items, hL1, hr1⟩ := R.h.listAt' hp ha eL1
    obtain ⟨jtems, hL2, hr2⟩ := R.h.listAt' hp hb eL2
    rw [nthO_eq, nthO_eq] at hc
    cases q : vs[i]? with
    | none =>
      rw [q] at hc
      refine wpAny_pyNext_zip_end hh D hz hTI hTO x1 x2 hL1 hL2 (.inl (by rw [List.getElem?_toArray]; rw [List.getElem?_eq_none_iff] at q ⊢; rw [← hr1.len]; exact q)) fun h' hk => hend hc _ (R.priv hv fun b o hb e => ?_)
      simp only [List.mem_cons, List.not_mem_nil, or_false, not_or] at hb
      exact hk b o hb.1 hb.2.2.1 hb.2.2.2.1 hb.2.2.2.2 e
    | some y =>
      cases q2 : ws[i]? with
      | none =>
        rw [q, q2] at hc
        refine wpAny_pyNext_zip_end hh D hz hTI hTO x1 x2 hL1 hL2 (.inr (by rw [List.getElem?_toArray]; rw [List.getElem?_eq_none_iff] at q2 ⊢; rw [← hr2.len]; exact q2)) fun h' hk => hend hc _ (R.priv hv fun b o hb e => ?_)
        simp only [List.mem_cons, List.not_mem_nil, or_false, not_or] at hb
        exact hk b o hb.1 hb.2.2.1 hb.2.2.2.1 hb.2.2.2.2 e
      | some y2 =>
        rw [q, q2] at hc
        obtain ⟨v, hv1, hv2⟩ := hr1.get q
        obtain ⟨v', hv1', hv2'⟩ := hr2.get q2
        refine wpAny_pyNext_zip_item D hz hTI hTO x1 x2 hL1 hL2 (by simpa using hv1) (by simpa using hv1') fun h' hz' hTO' hi1 hi2 hT hsz hk => ?_
        have R' : SR W φ h₀ ρ l H { s with heap := h' } := R.priv hv fun b o hb e => by
          simp only [List.mem_cons, List.not_mem_nil, or_false, not_or] at hb
          exact hk b o hb.1 hb.2.2.1 hb.2.2.2.1 hb.2.2.2.2 e
        refine h2 _ [v, v'] _ _ rfl hc ⟨hv2, hv2', trivial⟩ R' fun A' E' elts x1 pos Q' hQ' => ?_
        refine wpAny_letOwnedTupleGo_zip hz' fun h'' hz'' hs'' => hQ' _ (R'.priv hv fun b o hb e => hs''.extBut b o (fun q => hb (by simp [q])) e) ⟨0, hs''.extBut _ _ (fun q => ?_) hT⟩
          ⟨hz'', hs''.extBut _ _ D.TIz (hk _ _ D.TIz D.TITO D.TIi1 D.TIi2 hTI), ⟨_, _, hs''.extBut _ _ D.TOz hTO'⟩, hi1.extBut hs''.extBut D.i1z, hi2.extBut hs''.extBut D.i2z⟩
        have : @LT.lt Nat _ z s.heap.objs.size := Heap.lt_size hz
        rw [q] at this
        exact Nat.lt_irrefl _ this
theorem RefIt.zip {e f : PySem.Expr} {F G : C} {x : Str} {p pos : Pos} (b : BiFn Γ x (.type "zip")) (he : Ref W n Γ e F) (hf : Ref W n Γ f G) (hs : ∀ (rest : List PySem.Expr) (env : Env), starEach (e :: rest) env = (false, eval e env) :: starEach rest env := by intro _ _; rfl)
    (hs' : ∀ (rest : List PySem.Expr) (env : Env), starEach (f :: rest) env = (false, eval f env) :: starEach rest env := by intro _ _; rfl)
    (hfold : ∀ (env : Env) (v : Value), foldedSetIterable (.Call (.Name x p) [e, f] [] pos) env v = pure v := by intro _ _; rfl) : RefIt W n Γ (.Call (.Name x p) [e, f] [] pos) true (iZip F G) where
  fold := hfold
  run A E s h₀ ρ φ env l H k Q hR hE R h hP := by
    refine Call_type b (plain2 he hf hs hs') hR hE R (evs2 h) fun v x ρ₁ H₁ s₁ p₁ R₁ r₁ h₁ => ?_
    obtain ⟨a, a', w, w', rfl, rfl, r, r', h₂⟩ := two_of r₁ h₁
    obtain ⟨j, vs, rfl, e, h₃⟩ := asList_of h₂
    obtain ⟨j', ws, rfl, e', h₄⟩ := asList_of h₃
    obtain ⟨adr, items, rfl, ha, hp, hv⟩ := R₁.h.listAt e r
    obtain ⟨adr', jtems, rfl, ha', hp', hv'⟩ := R₁.h.listAt e' r'
    refine call_zip_2 (PlainList.isList hp) (PlainList.isList hp') fun h' hz hTI hTO hi1 hi2 hsz hk => ?_
    have R₂ : SR W φ h₀ ρ₁ l H₁ { s₁ with heap := h' } := R₁.ext hk
    have fr : PV [s₁.heap.objs.size + 4, s₁.heap.objs.size + 2, s₁.heap.objs.size + 3, s₁.heap.objs.size, s₁.heap.objs.size + 1] φ h₀ ρ₁ := PV.fresh R₁ (by simp)
    have lt1 : @LT.lt Nat _ adr s₁.heap.objs.size := let ⟨_, e⟩ := R₁.h.live adr (List.mem_of_getElem? ha); Heap.lt_size e
    have lt2 : @LT.lt Nat _ adr' s₁.heap.objs.size := let ⟨_, e⟩ := R₁.h.live adr' (List.mem_of_getElem? ha'); Heap.lt_size e
    have D : ZipApart (s₁.heap.objs.size + 4) (s₁.heap.objs.size + 2) (s₁.heap.objs.size + 3) s₁.heap.objs.size (s₁.heap.objs.size + 1) adr adr' := by
      constructor <;> (show @Ne Nat _ _; omega)
    refine wpAny_pyIter_zip (s := { s₁ with heap := h' }) hz ?_
    exact hP ρ₁ H₁ _ _ _ _ _ _ p₁ R₂ fr (IterOK.zip ha ha' D) ⟨hz, hTI, ⟨_, _, hTO⟩, hi1, hi2⟩ h₄

-- the values of a dict
theorem KRs.len {ρ : List Addr} : ∀ {xs : List (Tx × V)} {vs : List (Str × Value)}, KRs ρ xs vs → xs.length = vs.length
  | [], [], _ => rfl
  | _ :: _, _ :: _, ⟨_, _, c⟩ => by simp [KRs.len c]
  | [], _ :: _, q => q.elim
  | _ :: _, [], q => q.elim
theorem KRs.get {ρ : List Addr} : ∀ {xs : List (Tx × V)} {vs : List (Str × Value)} {i : Nat} {x : Tx × V}, KRs ρ xs vs → xs[i]? = some x → ∃ k v, vs[i]? = some (k, v) ∧ VR ρ x.2 v
  | _ :: _, v :: _, 0, _, ⟨_, b, _⟩, h => by simp at h; subst h; exact ⟨v.1, v.2, by simp, b⟩
  | _ :: _, _ :: _, i + 1, _, ⟨_, _, c⟩, h => by simp at h; simpa using KRs.get c h
  | [], _, _, _, _, h => by simp at h
  | _ :: _, [], _, _, q, _ => q.elim
theorem IterOK.vals {ρ₀ : List Addr} {k ep N : Nat} {adr I : Addr} (ha : ρ₀[k]? = some adr) :
    IterOK W I [I] false ρ₀ (fun i h c => asDictE (.ref k) h fun ep' es' => chk (Nat.beq ep' ep) <| chk (Nat.beq (lenL es') N) <| match nthO es' i with | some x => c (some [x.2]) | .none => c .none) (fun i h => h.IsValIter I adr i N ep) where
  live i h x a hm := by
    rw [List.mem_singleton] at hm; subst hm
    obtain ⟨o, e, _⟩ := x; exact ⟨o, e⟩
  frame i h h' x hk := by
    obtain ⟨o, e, r⟩ := x
    exact ⟨o, hk I (by simp) o e, r⟩
  mono i H c c' hc h := asDictE_mono h fun ep vs h => chk_mono h fun h => chk_mono h fun h => by
    skip
    cases q : nthO vs i with
    | none => rw [q] at h; exact hc _ h
    | some x => rw [q] at h; exact hc _ h
  self i A E s Q x h := wpAny_pyIter_valiter x h
  next i A E s h₀ ρ φ l H c Q hh hp R hv x hs hend h1 h2 := by
    obtain ⟨k', ep', es', e1, e, hc1⟩ := asDictE_of hs
    cases e1
    obtain ⟨hq1, hc2⟩ := chk_of hc1
    obtain ⟨hq2, hc⟩ := chk_of hc2
    have hq1 := Nat.eq_of_beq_eq_true hq1
    have hq2 := Nat.eq_of_beq_eq_true hq2
    rw [lenL_eq] at hq2
    clear hc1 hc2 hs
    subst hq1 hq2
    obtain ⟨a, kvs, e2, e3, hd, hk⟩ := R.h.dictAt (v := .ref adr) e ⟨adr, get_pre hp ha, rfl⟩
    cases e2
    rw [nthO_eq] at hc
    have hlen := hk.len
    rw [hlen] at x
    cases q : es'[i]? with
    | none =>
      rw [q] at hc
      refine wpAny_pyNext_values_end hh x hd (by rw [List.getElem?_eq_none_iff] at q ⊢; omega) fun h' he => hend hc _ (R.priv hv fun b o hb e => he b o (fun q => hb (by simp [q])) e)
    | some y =>
      rw [q] at hc
      obtain ⟨key, v, hv1, hv2⟩ := hk.get q
      refine wpAny_pyNext_values_item x hd hv1 fun h' hi hsb => h1 _ _ _ rfl hc hv2 (R.priv hv fun b o hb e => hsb.extBut b o (fun q => hb (by simp [q])) e) ?_
      rw [hlen]; exact hi
theorem RefIt.vals {e : PySem.Expr} {F : C} {apos pos : Pos} (he : Ref W n Γ e F) (hbase : ∀ env : Env, attributeBase e "values" env (eval e env) = eval e env := by intro _; rfl) (hline : (apos.endLine == pos.line) = true := by rfl)
    (hf : ∀ (env : Env) (v : Value), foldedSetIterable (.Call (.Attribute e "values" apos) [] [] pos) env v = pure v := by intro _ _; rfl) : RefIt W n Γ (.Call (.Attribute e "values" apos) [] [] pos) false (iVals F) where
  fold := hf
  run A E s h₀ ρ φ env l H k Q hR hE R h hP := by
    refine wpAny_Call_method (T := "dict") (id := "dict.values") (hbase env) rfl hline PySem.F.plainAttrs_dict PySem.F.slot_dict_values PySem.F.type_dict_values (he A E s h₀ ρ φ env l H _ _ hR hE R h fun v x ρ₁ H₁ s₁ p₁ R₁ r₁ h₁ => ?_)
    obtain ⟨j, ep, es, rfl, e, h₃⟩ := asDictE_of h₁
    obtain ⟨adr, kvs, rfl, ha, hd, hk⟩ := R₁.h.dictAt e r₁
    refine ⟨hd.dictOf.typeIs, hd.dictOf.mapOf.noDict, ?_⟩
    show wpAny _ _ (callWith pos (.builtin "dict.values") [.ref adr] [] []) _ E _
    refine method_meetsIn PySem.F.slot_dict_values PySem.F.entry_dict_values rfl (PySem.evalArgs_none ⟨rfl, hd.dictOf.typeIs, PySem.F.args_dict_values_1 _, _, meets_dict_values (strKind W.prog W.w) adr (R₁.h.notMods e ha), ⟨kvs, hd.dictOf⟩, ?_⟩)
    have R₂ := R₁.push { cls := .type "dict_values", data := .fields #[.ref adr] } s₁.toks
    refine wpAny_pyIter_values (s := { s₁ with heap := s₁.heap.push { cls := .type "dict_values", data := .fields #[.ref adr] } }) (v := s₁.heap.objs.size) ⟨_, Heap.get?_push_size _ rfl, rfl, rfl⟩ (hd.push _) ?_
    have R₃ := R₂.push { cls := .type "dict_valueiterator", data := .fields #[.ref adr, .int 0 0, .int kvs.length 0, .int ep 0] } s₁.toks
    have hlen := hk.len
    refine hP ρ₁ H₁ _ _ _ _ _ _ p₁ R₃ (PV.fresh R₂ (by simp)) (IterOK.vals ha) ?_ h₃
    refine ⟨_, Heap.get?_push_size _ rfl, rfl, ?_⟩
    rw [lenL_eq, hlen]; rfl
end
end Mine
namespace Mine
open PySem PySem.W PyProof.Rows

structure Outs (W : Wd) (φ : List Loc) (h₀ : Heap) (ρ : List Addr) (kn : List V → Hp → Bool) (kr : K) (kb : List V → Hp → Bool) (Q : Flow → Shared → Prop) : Prop where
  nxt : ∀ (ρ' : List Addr) (l' : List V) (H' : Hp) (s' : Shared), ρ <+: ρ' → SR W φ h₀ ρ' l' H' s' → kn l' H' = true → Q .next s'
  ret : ∀ (v : Value) (x : V) (ρ' : List Addr) (l' : List V) (H' : Hp) (s' : Shared), ρ <+: ρ' → SR W φ h₀ ρ' l' H' s' → VR ρ' x v → kr x H' = true → Q (.ret v) s'
  brk : ∀ (ρ' : List Addr) (l' : List V) (H' : Hp) (s' : Shared), ρ <+: ρ' → SR W φ h₀ ρ' l' H' s' → kb l' H' = true → Q .brk s'
theorem Outs.mono {W : Wd} {φ : List Loc} {h₀ : Heap} {ρ ρ₁ : List Addr} {kn : List V → Hp → Bool} {kr : K} {kb : List V → Hp → Bool} {Q : Flow → Shared → Prop} (o : Outs W φ h₀ ρ kn kr kb Q) (h : ρ <+: ρ₁) : Outs W φ h₀ ρ₁ kn kr kb Q :=
  ⟨fun ρ' l' H' s' p => o.nxt ρ' l' H' s' (h.trans p), fun v x ρ' l' H' s' p => o.ret v x ρ' l' H' s' (h.trans p), fun ρ' l' H' s' p => o.brk ρ' l' H' s' (h.trans p)⟩

/-- one statement -/
def Ref1 (W : Wd) (n : Nat) (Γ : Sc) (st : Stmt) (b : S) : Prop :=
  ∀ (A : Around) (E : Value → Shared → Prop) (s : Shared) (h₀ : Heap) (ρ : List Addr) (φ : List Loc) (env : Env) (l : List V) (H : Hp) (kn : List V → Hp → Bool) (kr : K) (kb : List V → Hp → Bool) (Q : Flow → Shared → Prop),
    Room n A → EnvOK Γ φ env → SR W φ h₀ ρ l H s → b l H kn kr kb = true → Outs W φ h₀ ρ kn kr kb Q → wpAny (model W.prog W.w) A (exec st env) Q E s
/-- statements in order -/
def RefS (W : Wd) (n : Nat) (Γ : Sc) (st : List Stmt) (b : S) : Prop :=
  ∀ (A : Around) (E : Value → Shared → Prop) (s : Shared) (h₀ : Heap) (ρ : List Addr) (φ : List Loc) (env : Env) (l : List V) (H : Hp) (kn : List V → Hp → Bool) (kr : K) (kb : List V → Hp → Bool) (Q : Flow → Shared → Prop),
    Room n A → EnvOK Γ φ env → SR W φ h₀ ρ l H s → b l H kn kr kb = true → Outs W φ h₀ ρ kn kr kb Q → wpAny (model W.prog W.w) A (execs st env) Q E s

section
variable {W : Wd} {n : Nat} {Γ : Sc}

theorem RefS.nil : RefS W n Γ [] (sBlock []) := by
  intro A E s h₀ ρ φ env l H kn kr kb Q hR hE R h o
  exact wpAny_execs_nil (o.nxt ρ l H s (List.prefix_refl _) R h)
theorem RefS.cons {st : Stmt} {sts : List Stmt} {b : S} {bs : List S} (h1 : Ref1 W n Γ st b) (h2 : RefS W n Γ sts (sBlock bs)) : RefS W n Γ (st :: sts) (sBlock (b :: bs)) := by
  intro A E s h₀ ρ φ env l H kn kr kb Q hR hE R h o
  refine wpAny_execs_cons (h1 A E s h₀ ρ φ env l H (fun l h => sBlock bs l h kn kr kb) kr kb _ hR hE R h ⟨fun ρ' l' H' s' p R' h' => ?_, fun v x ρ' l' H' s' p R' r h' => ?_, fun ρ' l' H' s' p R' h' => ?_⟩)
  · exact h2 A E s' h₀ ρ' φ env l' H' kn kr kb Q hR hE R' h' (o.mono p)
  · exact o.ret v x ρ' l' H' s' p R' r h'
  · exact o.brk ρ' l' H' s' p R' h'

theorem Ref1.ret {e : PySem.Expr} {F : C} {pos : Pos} (he : Ref W n Γ e F) : Ref1 W n Γ (.Return (some e) pos) (sRet F) := by
  intro A E s h₀ ρ φ env l H kn kr kb Q hR hE R h o
  exact wpAny_Return_some (he A E s h₀ ρ φ env l H _ _ hR hE R h fun v x ρ₁ H₁ s₁ p₁ R₁ r₁ h₁ => o.ret v x ρ₁ l H₁ s₁ p₁ R₁ r₁ h₁)
theorem Ref1.brk {pos : Pos} : Ref1 W n Γ (.Break pos) sBrk := by
  intro A E s h₀ ρ φ env l H kn kr kb Q hR hE R h o
  exact wpAny_Break (o.brk ρ l H s (List.prefix_refl _) R h)
theorem interactive_no {φ : List Loc} {env : Env} (hE : EnvOK Γ φ env) : interactive env = false := by
  unfold interactive
  rw [hE.sc, hE.kind]
  rfl
theorem Ref1.expr {e : PySem.Expr} {F : C} {pos : Pos} (he : Ref W n Γ e F) (hs : ∀ env : Env, swapsWith e none pos.line env = pure false := by intro _; rfl) : Ref1 W n Γ (.Expr e pos) (sExpr F) := by
  intro A E s h₀ ρ φ env l H kn kr kb Q hR hE R h o
  refine wpAny_Expr_any (he A E s h₀ ρ φ env l H _ _ hR hE R h fun v x ρ₁ H₁ s₁ p₁ R₁ r₁ h₁ => o.nxt ρ₁ l H₁ s₁ p₁ R₁ h₁) (interactive_no hE) (hs env)
theorem setV_len {v : V} {l : List V} {i : Nat} : setV v l i = l.set i v := setV_eq ..
theorem Ref1.set {e : PySem.Expr} {F : C} {x : Str} {i : Nat} {p pos : Pos} (he : Ref W n Γ e F) (hx : Γ.names.lookup x = some i) (hf : Γ.sc.names.lookup x ≠ some .free := by decide +kernel)
    (hs : ∀ env : Env, env.scope = Γ.sc → swapsWith e (some (.Name x p)) pos.line env = pure false := by intro _ _; rfl) : Ref1 W n Γ (.Assign [.Name x p] e pos) (sSet i F) := by
  intro A E s h₀ ρ φ env l H kn kr kb Q hR hE R h o
  refine wpAny_Assign_Name (he A E s h₀ ρ φ env l H _ _ hR hE R h fun v y ρ₁ H₁ s₁ p₁ R₁ r₁ h₁ => ?_) (hs env hE.sc)
  rw [setV_eq] at h₁
  exact store_slot hE R₁ hx hf r₁ fun s' R' => o.nxt ρ₁ _ H₁ s' p₁ R' h₁
theorem Ref1.cond {t : PySem.Expr} {T : B} {a b : List Stmt} {F G : S} {pos : Pos} (ht : RefB W n Γ t T) (ha : RefS W n Γ a F) (hb : RefS W n Γ b G) : Ref1 W n Γ (.If t a b pos) (sIf T F G) := by
  intro A E s h₀ ρ φ env l H kn kr kb Q hR hE R h o
  refine wpAny_If (ht A E s h₀ ρ φ env l H _ _ hR hE R h fun c ρ₁ H₁ s₁ p₁ R₁ h₁ => ?_)
  cases c with
  | true => exact ha A E s₁ h₀ ρ₁ φ env l H₁ kn kr kb Q hR hE R₁ h₁ (o.mono p₁)
  | false => exact hb A E s₁ h₀ ρ₁ φ env l H₁ kn kr kb Q hR hE R₁ h₁ (o.mono p₁)
/-- a change in place of a name -/
def OpI (W : Wd) (n : Nat) (o : O2) (op : Operator) : Prop := Op2 W n o (inplaceOp op)
theorem Ref1.aug {e : PySem.Expr} {F : C} {x : Str} {i : Nat} {o : O2} {op : Operator} {p pos : Pos} (ho : Op2 W n o (inplaceOp op)) (he : Ref W n Γ e F) (hx : Γ.names.lookup x = some i) (hf : Γ.sc.names.lookup x ≠ some .free := by decide +kernel)
    (hc : (x == ("__classdict__" : Str)) = false := by decide +kernel) : Ref1 W n Γ (.AugAssign (.Name x p) op e pos) (sAug o i F) := by
  intro A E s h₀ ρ φ env l H kn kr kb Q hR hE R h oo
  obtain ⟨y, hl, hy, hk⟩ := cVar_of h
  refine wpAny_AugAssign_Name (load_slot hE R.f hx hl hy hc fun v hv => ?_)
  refine he A E s h₀ ρ φ env l H _ _ hR hE R hk fun w z ρ₁ H₁ s₁ p₁ R₁ r₁ h₁ => ?_
  refine ho A E s₁ h₀ ρ₁ φ l H₁ _ _ v w y z hR R₁ (hv.mono p₁) r₁ h₁ fun u q ρ₂ H₂ s₂ p₂ R₂ r₂ h₂ => ?_
  rw [setV_eq] at h₂
  exact store_slot hE R₂ hx hf r₂ fun s' R' => oo.nxt ρ₂ _ H₂ s' (p₁.trans p₂) R' h₂

-- several names at once
theorem evs_set_of {is : List Nat} {xs l : List V} {k : List V → Bool} (h : setMany is xs l k = true) : is.length = xs.length := setMany_len h
theorem Refs.tuple {es : List PySem.Expr} {Fs : List C} (r : Refs W n Γ es Fs) {pos : Pos} {x1 : Nat} {A : Around} {E : Value → Shared → Prop} {s : Shared} {h₀ : Heap} {ρ : List Addr} {φ : List Loc} {env : Env} {l : List V} {H : Hp} {k : List V → Hp → Bool} {Q : Value → Shared → Prop}
    (hR : Room n A) (hE : EnvOK Γ φ env) (R : SR W φ h₀ ρ l H s) (hz : es.length ≤ 1000) (h : evs Fs l H k = true)
    (hP : ∀ (T : Addr) (xs : List V) (items : List Value) (ρ' : List Addr) (H' : Hp) (s' : Shared), ρ <+: ρ' → SR W φ h₀ ρ' l H' s' → VRs ρ' xs items → TupAt s'.heap T items → k xs H' = true → Q (.ref T) s')
    (hl : ∀ xs h, k xs h = true → xs.length ≤ 4096) : wpAny (model W.prog W.w) A (eval (.Tuple es x1 pos) env) Q E s := by
  refine wpAny_Tuple_spliced (r.spliced hR hE R h fun vs xs ρ₁ H₁ s₁ p₁ R₁ r₁ h₁ => ?_)
  have := hl _ _ h₁
  exact ⟨by rw [sizeLine_eq, ← r₁.len]; omega, hP _ xs vs ρ₁ H₁ _ p₁ (R₁.push _ s₁.toks) r₁ ⟨0, Heap.get?_push_size _ rfl⟩ h₁⟩
/-- (a, b) = e, the value a tuple -/
theorem Ref1.unpack {e : PySem.Expr} {F : C} {ts : List PySem.Expr} {is : List Nat} {x1 : Nat} {p pos : Pos} (he : Ref W n Γ e F) (hn : NamesAt Γ ts is)
    (hs : ∀ env : Env, swapsWithSole [.Tuple ts x1 p] e pos.line env = pure false := by intro _; rfl)
    (hw : ∀ env : Env, swappedStores [.Tuple ts x1 p] e env = pure none := by intro _; rfl) : Ref1 W n Γ (.Assign [.Tuple ts x1 p] e pos) (sUnpack is F) := by
  intro A E s h₀ ρ φ env l H kn kr kb Q hR hE R h o
  refine Assign_Tuple (he A E s h₀ ρ φ env l H _ _ hR hE R h fun v y ρ₁ H₁ s₁ p₁ R₁ r₁ h₁ => ?_) (hs env) (hw env)
  obtain ⟨j, vs, rfl, e, h'⟩ := asTup_of h₁
  obtain ⟨adr, items, rfl, ha, hp, hv⟩ := R₁.h.tupAt e r₁
  exact unpack_names hn hR.hd hE R₁ hp hv h' fun l' s' R' hk => o.nxt ρ₁ l' H₁ s' p₁ R' hk
/-- (a, b) = (e, f), stored in order -/
theorem Ref1.sets {es : List PySem.Expr} {Fs : List C} {ts : List PySem.Expr} {is : List Nat} {x1 x2 : Nat} {p p2 pos : Pos} (he : Refs W n Γ es Fs) (hn : NamesAt Γ ts is) (hz : is.length ≤ 1000 := by decide) (hz' : es.length ≤ 1000 := by decide)
    (hs : ∀ env : Env, swapsWithSole [.Tuple ts x1 p] (.Tuple es x2 p2) pos.line env = pure false := by intro _; rfl)
    (hw : ∀ env : Env, env.scope = Γ.sc → swappedStores [.Tuple ts x1 p] (.Tuple es x2 p2) env = pure none) : Ref1 W n Γ (.Assign [.Tuple ts x1 p] (.Tuple es x2 p2) pos) (sSets is Fs) := by
  intro A E s h₀ ρ φ env l H kn kr kb Q hR hE R h o
  refine Assign_Tuple (he.tuple hR hE R hz' h (fun T xs items ρ₁ H₁ s₁ p₁ R₁ r₁ hT h₁ => ?_) fun xs h hk => ?_) (hs env) (hw env hE.sc)
  · exact unpack_names hn hR.hd hE R₁ hT r₁ h₁ fun l' s' R' hk => o.nxt ρ₁ l' H₁ s' p₁ R' hk
  · have := setMany_len hk; omega
theorem NamesAt.bind {es : List PySem.Expr} {is : List Nat} {A : Around} {E : Value → Shared → Prop} {φ : List Loc} {env : Env} {h₀ : Heap} {ρ : List Addr} {H : Hp} (hE : EnvOK Γ φ env) :
    ∀ {names : List Str} {is : List Nat}, names.length = is.length → (∀ (i : Nat) (x : Str) (j : Nat), names[i]? = some x → is[i]? = some j → Γ.names.lookup x = some j ∧ Γ.sc.names.lookup x ≠ some .free) →
    ∀ {s : Shared} {l : List V} {xs : List V} {vs : List Value} {k : List V → Bool} {Q : Unit → Shared → Prop}, SR W φ h₀ ρ l H s → VRs ρ xs vs → setMany is xs l k = true → (∀ l' s', SR W φ h₀ ρ l' H s' → k l' = true → Q () s') →
    wpAny (model W.prog W.w) A (assignInOrder (names.map fun n => bindName env n) vs) Q E s
  | [], [], _, _, s, l, xs, vs, k, Q, R, r, h, hQ => by
    cases xs with
    | nil =>
      cases vs with
      | nil => exact wpAny_pure (hQ l s R h)
      | cons v vs => exact r.elim
    | cons x xs => exact absurd h Bool.false_ne_true
  | x :: names, i :: is, hlen, hx, s, l, xs, vs, k, Q, R, r, h, hQ => by
    cases xs with
    | nil => exact absurd h Bool.false_ne_true
    | cons y ys =>
      cases vs with
      | nil => exact r.elim
      | cons v vs =>
        have h' : setMany is ys (setV y l i) k = true := h
        rw [setV_eq] at h'
        have hx0 := hx 0 x i rfl rfl
        show wpAny _ _ (assignInOrder (bindName env x :: names.map fun n => bindName env n) (v :: vs)) _ _ _
        refine wpAny_assignInOrder_more (wpAny_bindName (store_slot hE R hx0.1 hx0.2 r.1 fun s' R' => ?_))
        exact NamesAt.bind (es := es) (is := is) hE (by simpa using hlen) (fun i' x' j' h1 h2 => hx (i' + 1) x' j' (by simpa using h1) (by simpa using h2)) R' r.2 h' hQ
  | [], _ :: _, hlen, _, _, _, _, _, _, _, _, _, _, _ => by simp at hlen
  | _ :: _, [], hlen, _, _, _, _, _, _, _, _, _, _, _ => by simp at hlen
theorem Ref1.setsR {es : List PySem.Expr} {Fs : List C} {ts : List PySem.Expr} {is : List Nat} {names : List Str} {x1 x2 : Nat} {p p2 pos : Pos} (he : Refs W n Γ es Fs) (hlen : names.reverse.length = is.length) (hx : ∀ (i : Nat) (x : Str) (j : Nat), names.reverse[i]? = some x → is[i]? = some j → Γ.names.lookup x = some j ∧ Γ.sc.names.lookup x ≠ some .free)
    (hz : is.length ≤ 1000 := by decide) (hz' : es.length ≤ 1000 := by decide)
    (hs : ∀ env : Env, swapsWithSole [.Tuple ts x1 p] (.Tuple es x2 p2) pos.line env = pure false := by intro _; rfl)
    (hw : ∀ env : Env, env.scope = Γ.sc → swappedStores [.Tuple ts x1 p] (.Tuple es x2 p2) env = pure (some names)) : Ref1 W n Γ (.Assign [.Tuple ts x1 p] (.Tuple es x2 p2) pos) (sSetsR is Fs) := by
  intro A E s h₀ ρ φ env l H kn kr kb Q hR hE R h o
  refine Assign_Tuple_swapped (he.tuple hR hE R hz' h (fun T xs items ρ₁ H₁ s₁ p₁ R₁ r₁ hT h₁ => ?_) fun xs h hk => ?_) (hs env) (hw env hE.sc)
  · obtain ⟨nn, e⟩ := hT
    rw [revL_eq, List.append_nil] at h₁
    have hl := setMany_len h₁
    have hn : names.length = items.length := by
      rw [← r₁.len]
      simp at hlen hl
      omega
    have ht : s₁.heap.IsTuple T items.toArray := ⟨_, e, rfl, nn, rfl⟩
    rw [show names.length = items.toArray.size by simpa using hn]
    refine wpAny_unpackItems_tuple hR.hd ht fun h' hx' => ?_
    have R₂ : SR W φ h₀ ρ₁ l H₁ { s₁ with heap := h' } := R₁.ext fun b o e => hx' b o (Nat.ne_of_lt (Heap.lt_size e)) e
    rw [List.toList_toArray]
    exact NamesAt.bind (es := []) (is := []) hE hlen hx R₂ r₁.rev h₁ fun l' s' R' hk => o.nxt ρ₁ l' H₁ s' p₁ R' hk
  · have := setMany_len hk
    rw [revL_eq] at this
    simp at this
    omega
end
end Mine
namespace Mine
open PySem PySem.W PyProof.Rows

/-- targets of a loop -/
inductive Tgt (Γ : Sc) : PySem.Expr → Bool → List Nat → Prop
  | one {x : Str} {i : Nat} {p : Pos} (hx : Γ.names.lookup x = some i) (hf : Γ.sc.names.lookup x ≠ some .free) : Tgt Γ (.Name x p) false [i]
  | many {ts : List PySem.Expr} {is : List Nat} {x1 : Nat} {p : Pos} (hn : NamesAt Γ ts is) : Tgt Γ (.Tuple ts x1 p) true is

/-- what one turn of a loop does with what the stepper says -/
noncomputable def turnK (is : List Nat) (l : List V) (kn : Bool) (k : List V → Bool) : Option (List V) → Bool
  | none => kn
  | some xs => setMany is xs l k
section
variable {W : Wd} {n : Nat} {Γ : Sc}

theorem SR.unguard {φ : List Loc} {h₀ : Heap} {ρ : List Addr} {H : Hp} {s : Shared} {I : Addr} {pv : List Addr} {tup : Bool} {ρ₀ : List Addr} {stp : Stp} {Itr : Nat → Heap → Prop} (ok : IterOK W I pv tup ρ₀ stp Itr) (R : HR W h₀ ρ H s) (hv : PV pv φ h₀ ρ) {i : Nat} (hi : Itr i s.heap)
    {ρ' : List Addr} {l' : List V} {H' : Hp} {s' : Shared} (R' : SR W φ (Mine.guard h₀ s.heap pv) ρ' l' H' s') : SR W φ h₀ ρ' l' H' s' ∧ PV pv φ h₀ ρ' ∧ Itr i s'.heap := by
  obtain ⟨a, b, c⟩ := guard_back R hv (ok.live i _ hi) R'
  exact ⟨a, b, ok.frame i _ _ hi c⟩

theorem Tgt.next {target : PySem.Expr} {tup : Bool} {is : List Nat} (t : Tgt Γ target tup is) {I : Addr} {pv : List Addr} {ρ₀ : List Addr} {stp : Stp} {Itr : Nat → Heap → Prop} (ok : IterOK W I pv tup ρ₀ stp Itr)
    {i : Nat} {A : Around} {E E1 E2 : Value → Shared → Prop} {s : Shared} {h₀ : Heap} {ρ : List Addr} {φ : List Loc} {env : Env} {l : List V} {H : Hp} {kn : Bool} {k : List V → Bool} {Qn Qs : Shared → Prop}
    (hh : A.handled = none) (hE : EnvOK Γ φ env) (hp : ρ₀ <+: ρ) (R : SR W φ h₀ ρ l H s) (hv : PV pv φ h₀ ρ) (hi : Itr i s.heap) (hs : stp i H (turnK is l kn k) = true)
    (hn : kn = true → ∀ s', SR W φ h₀ ρ l H s' → Qn s')
    (hQ : ∀ l' s', SR W φ h₀ ρ l' H s' → Itr (i + 1) s'.heap → k l' = true → Qs s') :
    wpAny (model W.prog W.w) A (pyNext (.ref I)) (fun r s₁ => match r with
      | none => Qn s₁
      | some v => wpAny (model W.prog W.w) A (letOwnedTupleGo target (.ref I) v) (fun _ s₁' => wpAny (model W.prog W.w) A (assign target env v) (fun _ s₂ => Qs s₂) E1 s₁') E2 s₁) E s := by
  refine ok.next i A E s h₀ ρ φ l H (turnK is l kn k) _ hh hp R hv hi hs (fun hk s' R' => hn hk s' R') (fun x v s' ht hk hr R' hi' => ?_) fun xs items T s' ht hk hr R' hgo => ?_
  · cases t with
    | many hn => cases ht
    | @one x i' p hx hf =>
      show wpAny _ A (pure ()) _ _ _
      refine wpAny_pure (wpAny_assign_Name ?_)
      have hk : k (setV _ l i') = true := hk
      rw [setV_eq] at hk
      refine store_slot hE (R'.guard hv) hx hf hr fun s'' R'' => ?_
      obtain ⟨a, b, c⟩ := SR.unguard ok R'.h hv hi' R''
      exact hQ _ s'' a c hk
  · cases t with
    | one hx hf => cases ht
    | @many ts is x1 p hnm =>
      have hk : setMany is xs l k = true := hk
      refine hgo A E2 ts x1 p _ fun s'' R'' hT hi' => ?_
      refine unpack_names hnm hh hE (R''.guard hv) hT hr hk fun l' s₂ R₂ hk' => ?_
      obtain ⟨a, b, c⟩ := SR.unguard ok R''.h hv hi' R₂
      exact hQ l' s₂ a c hk'

theorem sLoop_zero {stp : Stp} {is : List Nat} {b : S} {i : Nat} {l : List V} {H : Hp} {kn : List V → Hp → Bool} {kr : K} (h : sLoop stp is b 0 i l H kn kr = true) : stp i H (fun o => match o with | .none => kn l H | _ => false) = true := h
theorem sLoop_succ {stp : Stp} {is : List Nat} {b : S} {m i : Nat} {l : List V} {H : Hp} {kn : List V → Hp → Bool} {kr : K} (h : sLoop stp is b (m + 1) i l H kn kr = true) :
    stp i H (turnK is l (kn l H) fun l => b l H (fun l h => sLoop stp is b m (Nat.succ i) l h kn kr) kr kn) = true := by
  have e : (turnK is l (kn l H) fun l => b l H (fun l h => sLoop stp is b m (Nat.succ i) l h kn kr) kr kn) = fun o => match o with | .none => kn l H | some xs => setMany is xs l fun l => b l H (fun l h => sLoop stp is b m (Nat.succ i) l h kn kr) kr kn := by
    funext o; cases o <;> rfl
  rw [e]; exact h

theorem Ref1.for {e : PySem.Expr} {tup : Bool} {it : It} {target : PySem.Expr} {is : List Nat} {body : List Stmt} {b : S} {pos : Pos} (hi : RefIt W n Γ e tup it) (ht : Tgt Γ target tup is) (hb : RefS W n Γ body b) :
    Ref1 W n Γ (.For target e body [] pos) (sFor is it b) := by
  intro A E s h₀ ρ φ env l H kn kr kb Q hR hE R h o
  refine wpAny_For (hi.run A E s h₀ ρ φ env l H _ _ hR hE R h fun ρ₁ H₁ s₁ I pv cnt stp Itr p₁ R₁ hv ok hi₀ h₁ => ?_) (hi.fold env)
  refine codeAny_forLoop_any (fun m s => ∃ (i : Nat) (ρ' : List Addr) (l : List V) (H : Hp), ρ₁ <+: ρ' ∧ SR W φ h₀ ρ' l H s ∧ PV pv φ h₀ ρ' ∧ Itr i s.heap ∧ sLoop stp is b m i l H kn kr = true) ?_ cnt ⟨0, ρ₁, l, H₁, List.prefix_refl _, R₁, hv, hi₀, h₁⟩
  rintro m s₂ ⟨i, ρ', l', H', hp', R', hv', hi', h'⟩
  cases m with
  | zero =>
    refine ok.next i A _ s₂ h₀ ρ' φ l' H' _ _ hR.hd hp' R' hv' hi' (sLoop_zero h') (fun hk s' R'' => ?_) (fun x v s' _ hk => by cases hk) fun xs items T s' _ hk => by cases hk
    exact wpAny_execs_nil (o.nxt ρ' l' H' s' (p₁.trans hp') R'' hk)
  | succ m =>
    refine ht.next ok hR.hd hE hp' R' hv' hi' (sLoop_succ h') (fun hk s' R'' => wpAny_execs_nil (o.nxt ρ' l' H' s' (p₁.trans hp') R'' hk)) fun l₂ s₃ R₃ hi₃ hk => ?_
    refine hb A _ s₃ _ ρ' φ env l₂ H' _ kr kn _ hR hE (R₃.guard hv') hk ⟨fun ρ₄ l₄ H₄ s₄ p₄ R₄ h₄ => ?_, fun v x ρ₄ l₄ H₄ s₄ p₄ R₄ r₄ h₄ => ?_, fun ρ₄ l₄ H₄ s₄ p₄ R₄ h₄ => ?_⟩
    · obtain ⟨a, b', c⟩ := SR.unguard ok R₃.h hv' hi₃ R₄
      exact ⟨m, Nat.lt_succ_self m, i + 1, ρ₄, l₄, H₄, hp'.trans p₄, a, b', c, h₄⟩
    · obtain ⟨a, b', c⟩ := SR.unguard ok R₃.h hv' hi₃ R₄
      exact o.ret v x ρ₄ l₄ H₄ s₄ (p₁.trans (hp'.trans p₄)) a r₄ h₄
    · obtain ⟨a, b', c⟩ := SR.unguard ok R₃.h hv' hi₃ R₄
      exact o.nxt ρ₄ l₄ H₄ s₄ (p₁.trans (hp'.trans p₄)) a h₄

noncomputable def wLoop (t : B) (b : S) (kn : List V → Hp → Bool) (kr : K) : Nat → List V → Hp → Bool
  | 0 => fun _ _ => false
  | m + 1 => fun l h => t l h fun c h => @Bool.rec (fun _ => Bool) (kn l h) (b l h (wLoop t b kn kr m) kr kn) c
theorem wLoop_eq {t : B} {b : S} {kn : List V → Hp → Bool} {kr : K} : ∀ (m : Nat), (@Nat.rec (fun _ => List V → Hp → Bool) (fun _ _ => false) (fun _ ih l h => t l h fun c h => @Bool.rec (fun _ => Bool) (kn l h) (b l h ih kr kn) c) m) = wLoop t b kn kr m
  | 0 => rfl
  | m + 1 => by
    show (fun l h => t l h fun c h => @Bool.rec (fun _ => Bool) (kn l h) (b l h (@Nat.rec (fun _ => List V → Hp → Bool) (fun _ _ => false) (fun _ ih l h => t l h fun c h => @Bool.rec (fun _ => Bool) (kn l h) (b l h ih kr kn) c) m) kr kn) c) = _
    rw [wLoop_eq m]; rfl
theorem Ref1.while {t : PySem.Expr} {T : B} {m : Nat} {body : List Stmt} {b : S} {pos : Pos} (ht : RefB W n Γ t T) (hb : RefS W n Γ body b) : Ref1 W n Γ (.While t body [] pos) (sWhile m T b) := by
  intro A E s h₀ ρ φ env l H kn kr kb Q hR hE R h o
  have h' : wLoop T b kn kr m l H = true := by rw [← wLoop_eq]; exact h
  refine wpAny_While (codeAny_whileLoop (fun m s => ∃ (ρ' : List Addr) (l : List V) (H : Hp), ρ <+: ρ' ∧ SR W φ h₀ ρ' l H s ∧ wLoop T b kn kr m l H = true) ?_ m ⟨ρ, l, H, List.prefix_refl _, R, h'⟩)
  rintro m s₂ ⟨ρ', l', H', hp', R', h'⟩
  cases m with
  | zero => cases h'
  | succ m =>
    refine ht A _ s₂ h₀ ρ' φ env l' H' _ _ hR hE R' h' fun c ρ₁ H₁ s₁ p₁ R₁ h₁ => ?_
    cases c with
    | false => exact wpAny_execs_nil (o.nxt ρ₁ l' H₁ s₁ (hp'.trans p₁) R₁ h₁)
    | true =>
      refine hb A _ s₁ h₀ ρ₁ φ env l' H₁ _ kr kn _ hR hE R₁ h₁ ⟨fun ρ₄ l₄ H₄ s₄ p₄ R₄ h₄ => ?_, fun v x ρ₄ l₄ H₄ s₄ p₄ R₄ r₄ h₄ => ?_, fun ρ₄ l₄ H₄ s₄ p₄ R₄ h₄ => ?_⟩
      · exact ⟨m, Nat.lt_succ_self m, ρ₄, l₄, H₄, hp'.trans (p₁.trans p₄), R₄, h₄⟩
      · exact o.ret v x ρ₄ l₄ H₄ s₄ (hp'.trans (p₁.trans p₄)) R₄ r₄ h₄
      · exact o.nxt ρ₄ l₄ H₄ s₄ (hp'.trans (p₁.trans p₄)) R₄ h₄
end
end Mine
namespace Mine
open PySem PySem.W PyProof.Rows

-- the bound slots, and how they are forgotten
def Less (is : List Nat) (l l' : List V) : Prop := l'.length = l.length ∧ ∀ j, j ∉ is → l'[j]? = l[j]?
theorem Less.step {is : List Nat} {i : Nat} {x : V} {l l' : List V} (h : Less is (l.set i x) l') : Less (i :: is) l l' :=
  ⟨by rw [h.1]; simp, fun j hj => by
    have h1 : j ≠ i := fun q => hj (by simp [q])
    have h2 : j ∉ is := fun q => hj (by simp [q])
    rw [h.2 j h2, List.getElem?_set_ne (Ne.symm h1)]⟩
open Classical in
theorem setMany_less : ∀ {is : List Nat} {xs l : List V} {k : List V → Bool}, setMany is xs l k = true → setMany is xs l (fun l' => k l' && decide (Less is l l')) = true
  | [], [], l, k, h => by
    have h : k l = true := h
    show (k l && decide (Less [] l l)) = true
    rw [Bool.and_eq_true]
    exact ⟨h, decide_eq_true (show Less [] l l from ⟨rfl, fun _ _ => rfl⟩)⟩
  | [], _ :: _, _, _, h => absurd h Bool.false_ne_true
  | _ :: _, [], _, _, h => absurd h Bool.false_ne_true
  | i :: is, x :: xs, l, k, h => by
    have h' : setMany is xs (setV x l i) k = true := h
    have := setMany_less h'
    show setMany is xs (setV x l i) (fun l' => k l' && decide (Less (i :: is) l l')) = true
    refine setMany_mono this fun l' hl' => ?_
    rw [Bool.and_eq_true] at hl' ⊢
    refine ⟨hl'.1, decide_eq_true ?_⟩
    have := of_decide_eq_true hl'.2
    rw [setV_eq] at this
    exact this.step
where
  setMany_mono : ∀ {is : List Nat} {xs l : List V} {k k' : List V → Bool}, setMany is xs l k = true → (∀ l', k l' = true → k' l' = true) → setMany is xs l k' = true
  | [], [], l, k, k', h, hk => hk l h
  | [], _ :: _, _, _, _, h, _ => absurd h Bool.false_ne_true
  | _ :: _, [], _, _, _, h, _ => absurd h Bool.false_ne_true
  | i :: is, x :: xs, l, k, k', h, hk => by
    have h' : setMany is xs (setV x l i) k = true := h
    show setMany is xs (setV x l i) k' = true
    exact setMany_mono h' hk
theorem allUnb_of : ∀ {is : List Nat} {l : List V}, allUnb is l = true → ∀ j ∈ is, ∀ x, l[j]? = some x → x = .unb
  | [], _, _, j, hj, _, _ => nomatch hj
  | i :: is, l, h, j, hj, x, hx => by
    have h' : @Bool.rec (fun _ => Bool) false (allUnb is l) (isUnb (nthV l i)) = true := h
    rcases rec_tt h' with ⟨h1, h2⟩ | ⟨_, h2⟩
    · rcases List.mem_cons.mp hj with rfl | hj
      · rw [nthV_eq, List.getD_eq_getElem?_getD, hx] at h1
        cases x <;> first | rfl | exact absurd h1 Bool.false_ne_true
      · exact allUnb_of h2 j hj x hx
    · cases h2
theorem FR.forget {φ : List Loc} {h₀ : Heap} {ρ : List Addr} {l l' : List V} {s : Shared} {is : List Nat} (F : FR φ h₀ ρ l' s) (h : Less is l l') (hu : ∀ j ∈ is, ∀ x, l[j]? = some x → x = .unb) : FR φ h₀ ρ l s :=
  ⟨by rw [← h.1, F.len], F.ok, fun i lc x h1 h2 hx => F.has i lc x h1 (by
    by_cases q : i ∈ is
    · exact absurd (hu i q x h2) hx
    · rw [h.2 i q]; exact h2) hx, F.apart, F.nρ, F.n0⟩
theorem SR.forget {W : Wd} {φ : List Loc} {h₀ : Heap} {ρ : List Addr} {l l' : List V} {H : Hp} {s : Shared} {is : List Nat} (R : SR W φ h₀ ρ l' H s) (h : Less is l l') (hu : ∀ j ∈ is, ∀ x, l[j]? = some x → x = .unb) : SR W φ h₀ ρ l H s :=
  ⟨R.h, R.f.forget h hu⟩

-- private addresses under a guard
theorem PV.app {pv pw : List Addr} {φ : List Loc} {h₀ : Heap} {ρ : List Addr} (a : PV pv φ h₀ ρ) (b : PV pw φ h₀ ρ) : PV (pv ++ pw) φ h₀ ρ := fun x hx => (List.mem_append.mp hx).elim (a x) (b x)
theorem PV.left {pv pw : List Addr} {φ : List Loc} {h₀ : Heap} {ρ : List Addr} (a : PV (pv ++ pw) φ h₀ ρ) : PV pv φ h₀ ρ := fun x hx => a x (List.mem_append_left _ hx)
theorem PV.right {pv pw : List Addr} {φ : List Loc} {h₀ : Heap} {ρ : List Addr} (a : PV (pv ++ pw) φ h₀ ρ) : PV pw φ h₀ ρ := fun x hx => a x (List.mem_append_right _ hx)
theorem PV.in {W : Wd} {pv pw : List Addr} {φ : List Loc} {h₀ : Heap} {ρ : List Addr} {H : Hp} {s : Shared} (a : PV pv φ h₀ ρ) (R : HR W h₀ ρ H s) (hd : ∀ x ∈ pv, x ∉ pw) : PV pv φ (Mine.guard h₀ s.heap pw) ρ := fun x hx =>
  ⟨(a x hx).1, by rw [guard_get R.keep, if_neg (hd x hx)]; exact (a x hx).2.1, (a x hx).2.2⟩
theorem PV.out {pv pw : List Addr} {φ : List Loc} {h₀ : Heap} {ρ ρ' : List Addr} {s : Shared} (a : PV pv φ h₀ ρ) (b : PV pv φ (Mine.guard h₀ s.heap pw) ρ') : PV pv φ h₀ ρ' := fun x hx => ⟨(b x hx).1, (a x hx).2.1, (a x hx).2.2⟩

/-- what is done behind the tests of a comprehension's clause -/
def RefA (W : Wd) (n : Nat) (Γ : Sc) (after : Value → Env → Sem Unit) (g : G) : Prop :=
  ∀ (A : Around) (E : Value → Shared → Prop) (s : Shared) (h₀ : Heap) (ρ : List Addr) (φ : List Loc) (env : Env) (l : List V) (H : Hp) (D : Addr) (items : List Value) (acc : List V) (k : Hp → List V → Bool) (Q : Unit → Shared → Prop),
    Room n A → EnvOK Γ φ env → SR W φ h₀ ρ l H s → PV [D] φ h₀ ρ → s.heap.PlainList D items.toArray → VRs ρ acc.reverse items → g l H acc k = true →
    (∀ (acc' : List V) (items' : List Value) (ρ' : List Addr) (H' : Hp) (s' : Shared), ρ <+: ρ' → SR W φ h₀ ρ' l H' s' → PV [D] φ h₀ ρ' → s'.heap.PlainList D items'.toArray → VRs ρ' acc'.reverse items' → k H' acc' = true → Q () s') →
    wpAny (model W.prog W.w) A (after (.ref D) env) Q E s

def emitL (elt : PySem.Expr) (acc : Value) (env : Env) : Sem Unit := do let _ ← call (.builtin "list.append") [acc, ← eval elt env]
def testsOf (ifs : List PySem.Expr) (env : Env) : Sem Bool := forIn ifs true fun c r => if r = true then do let ok ← isTrue c env (eval c env); pure (ForInStep.yield ok) else pure (ForInStep.yield r)

section
variable {W : Wd} {n : Nat} {Γ : Sc}

theorem RefA.elt {e : PySem.Expr} {F : C} (he : Ref W n Γ e F) : RefA W n Γ (emitL e) (gElt F) := by
  intro A E s h₀ ρ φ env l H D items acc k Q hR hE R hv hD hacc h hQ
  refine wpAny_bind (he A E s _ ρ φ env l H _ _ hR hE (R.guard hv) h fun v x ρ₁ H₁ s₁ p₁ R₁ r₁ h₁ => ?_)
  obtain ⟨a, b, c⟩ := guard_back R.h hv (by intro x hx; rw [List.mem_singleton] at hx; subst hx; obtain ⟨nn, e⟩ := hD; exact ⟨_, e⟩) R₁
  have hD₁ : s₁.heap.PlainList D items.toArray := hD.at fun o e => c D (by simp) o e
  obtain ⟨hc, h₂⟩ := chk_of h₁
  have hz := PySem.W.Z.ble_iff.mp hc
  rw [lenL_eq] at hz
  have hl := hacc.len
  rw [List.length_reverse] at hl
  refine wpAny_bind (wpAny_list_append_plain hD₁ (fun h' hp' hs' => wpAny_pure ?_) (by rw [sizeLine_eq, List.size_toArray]; omega))
  refine hQ (x :: acc) (items ++ [v]) ρ₁ H₁ _ p₁ (a.priv b fun y o hy e => hs'.extBut y o (fun q => hy (by simp [q])) e) b (by simpa using hp') ?_ h₂
  rw [List.reverse_cons]
  exact (hacc.mono p₁).app ⟨r₁, trivial⟩

/-- tests, then what follows -/
inductive RefI (W : Wd) (n : Nat) (Γ : Sc) : List PySem.Expr → G → G → Prop
  | nil {g : G} : RefI W n Γ [] g g
  | one {t : PySem.Expr} {T : B} {g : G} (ht : RefB W n Γ t T) : RefI W n Γ [t] g (gIf T g)

theorem tests_go {ifs : List PySem.Expr} {g g' : G} {after : Value → Env → Sem Unit} (hi : RefI W n Γ ifs g g') (ha : RefA W n Γ after g)
    {A : Around} {E : Value → Shared → Prop} {s : Shared} {h₀ : Heap} {ρ : List Addr} {φ : List Loc} {env : Env} {l : List V} {H : Hp} {D : Addr} {items : List Value} {acc : List V} {k : Hp → List V → Bool} {Q : Shared → Prop}
    (hR : Room n A) (hE : EnvOK Γ φ env) (R : SR W φ h₀ ρ l H s) (hv : PV [D] φ h₀ ρ) (hD : s.heap.PlainList D items.toArray) (hacc : VRs ρ acc.reverse items) (h : g' l H acc k = true)
    (hQ : ∀ (acc' : List V) (items' : List Value) (ρ' : List Addr) (H' : Hp) (s' : Shared), ρ <+: ρ' → SR W φ h₀ ρ' l H' s' → PV [D] φ h₀ ρ' → s'.heap.PlainList D items'.toArray → VRs ρ' acc'.reverse items' → k H' acc' = true → Q s') :
    wpAny (model W.prog W.w) A (testsOf ifs env) (fun ok s₁ => (ok = true ∧ wpAny (model W.prog W.w) A (after (.ref D) env) (fun _ s₂ => Q s₂) E s₁) ∨ (ok = false ∧ Q s₁)) E s := by
  cases hi with
  | nil => exact wpAny_tests_nil (.inl ⟨rfl, ha A E s h₀ ρ φ env l H D items acc k _ hR hE R hv hD hacc h hQ⟩)
  | @one t T g ht =>
    refine wpAny_tests_one (ht A E s _ ρ φ env l H _ _ hR hE (R.guard hv) h fun b ρ₁ H₁ s₁ p₁ R₁ h₁ => ?_)
    obtain ⟨a, b', c⟩ := guard_back R.h hv (by intro x hx; rw [List.mem_singleton] at hx; subst hx; obtain ⟨nn, e⟩ := hD; exact ⟨_, e⟩) R₁
    have hD₁ : s₁.heap.PlainList D items.toArray := hD.at fun o e => c D (by simp) o e
    cases b with
    | true => exact .inl ⟨rfl, ha A E s₁ h₀ ρ₁ φ env l H₁ D items acc k _ hR hE a b' hD₁ (hacc.mono p₁) h₁ fun acc' items' ρ' H' s' p => hQ acc' items' ρ' H' s' (p₁.trans p)⟩
    | false => exact .inr ⟨rfl, hQ acc items ρ₁ H₁ s₁ p₁ a b' hD₁ (hacc.mono p₁) h₁⟩

theorem gLoop_zero {stp : Stp} {is : List Nat} {g : G} {i : Nat} {l : List V} {H : Hp} {acc : List V} {k : Hp → List V → Bool} (h : gLoop stp is g l 0 i H acc k = true) : stp i H (fun o => match o with | .none => k H acc | _ => false) = true := h
theorem gLoop_succ {stp : Stp} {is : List Nat} {g : G} {m i : Nat} {l : List V} {H : Hp} {acc : List V} {k : Hp → List V → Bool} (h : gLoop stp is g l (m + 1) i H acc k = true) :
    stp i H (turnK is l (k H acc) fun l' => g l' H acc fun h acc => gLoop stp is g l m (Nat.succ i) h acc k) = true := by
  have e : (turnK is l (k H acc) fun l' => g l' H acc fun h acc => gLoop stp is g l m (Nat.succ i) h acc k) = fun o => match o with | .none => k H acc | some xs => setMany is xs l fun l' => g l' H acc fun h acc => gLoop stp is g l m (Nat.succ i) h acc k := by
    funext o; cases o <;> rfl
  rw [e]; exact h
end
end Mine
namespace Mine
open PySem PySem.W PyProof.Rows

/-- one turn of a comprehension's loop -/
def turnOf (target iter : PySem.Expr) (ifs : List PySem.Expr) (after : Sem Unit) (ag : Sem Fin) (it : Value) (env : Env) : Sem Fin := do
  standAt iter.pos
  match ← pyNext it with
  | none => pure (.done .next)
  | some v =>
    letOwnedTupleGo target it v
    assign target env v
    let mut ok := true
    for c in ifs do
      if ok then ok ← isTrue c env (eval c env)
    if ok then after
    ag

/-- a list display's loop over one clause -/
structure IsLoop (e : PySem.Expr) (d : Nat) (target iter : PySem.Expr) (ifs : List PySem.Expr) (after : Value → Env → Sem Unit) : Prop where
  turn : ∀ (it acc : Value) (env : Env), compTurn e d it acc env = turnOf target iter ifs (after acc env) (again (.compLoop e d it acc env)) it env
  list : ∃ elt gens scope pos, e = .ListComp elt gens scope pos

theorem IsLoop.last1 {elt target iter : PySem.Expr} {ifs : List PySem.Expr} {scope : Scope} {pos : Pos} : IsLoop (.ListComp elt [⟨target, iter, ifs, 0⟩] scope pos) 0 target iter ifs (emitL elt) := ⟨fun _ _ _ => rfl, _, _, _, _, rfl⟩
theorem IsLoop.last2 {elt target iter target' iter' : PySem.Expr} {ifs ifs' : List PySem.Expr} {scope : Scope} {pos : Pos} : IsLoop (.ListComp elt [⟨target', iter', ifs', 0⟩, ⟨target, iter, ifs, 0⟩] scope pos) 1 target iter ifs (emitL elt) := ⟨fun _ _ _ => rfl, _, _, _, _, rfl⟩
def innerL (e iter : PySem.Expr) (d : Nat) (acc : Value) (env : Env) : Sem Unit := do
  let x ← eval iter env
  standAt iter.pos
  let x ← foldedSetIterable iter env x
  let _ ← runOwn (.compStart e d (← holding [x] (pyIter x)) acc env) env
theorem IsLoop.first2 {elt target iter target' iter' : PySem.Expr} {ifs ifs' : List PySem.Expr} {scope : Scope} {pos : Pos} :
    IsLoop (.ListComp elt [⟨target', iter', ifs', 0⟩, ⟨target, iter, ifs, 0⟩] scope pos) 0 target' iter' ifs' (innerL (.ListComp elt [⟨target', iter', ifs', 0⟩, ⟨target, iter, ifs, 0⟩] scope pos) iter 1) := ⟨fun it acc env => by
  have e : compTurn (.ListComp elt [⟨target', iter', ifs', 0⟩, ⟨target, iter, ifs, 0⟩] scope pos) 0 it acc env = (do
    standAt iter'.pos
    match ← pyNext it with
    | none => pure (.done .next)
    | some v =>
      letOwnedTupleGo target' it v
      assign target' env v
      let mut ok := true
      for c in ifs' do
        if ok then ok ← isTrue c env (eval c env)
      if ok then
        let x ← eval iter env
        standAt iter.pos
        let x ← foldedSetIterable iter env x
        let _ ← runOwn (.compStart (.ListComp elt [⟨target', iter', ifs', 0⟩, ⟨target, iter, ifs, 0⟩] scope pos) 1 (← holding [x] (pyIter x)) acc env) env
      again (.compLoop (.ListComp elt [⟨target', iter', ifs', 0⟩, ⟨target, iter, ifs, 0⟩] scope pos) 0 it acc env)) := by rfl
  rw [e]
  unfold turnOf innerL
  simp only [bind_assoc, pure_bind]
  , _, _, _, _, rfl⟩

section
variable {W : Wd} {n : Nat} {Γ : Sc}

theorem turn_mono {A : Around} {E : Value → Shared → Prop} {s : Shared} {target iter : PySem.Expr} {ifs : List PySem.Expr} {after : Sem Unit} {ag : Sem Fin} {it : Value} {env : Env} {Q : Fin → Shared → Prop}
    (h : wpAny (model W.prog W.w) A (pyNext it) (fun r s₁ => match r with
      | none => Q (.done .next) s₁
      | some v => wpAny (model W.prog W.w) A (letOwnedTupleGo target it v) (fun _ s₁' => wpAny (model W.prog W.w) A (assign target env v) (fun _ s₂ =>
        wpAny (model W.prog W.w) A (testsOf ifs env) (fun ok s₃ => (ok = true ∧ wpAny (model W.prog W.w) A after (fun _ s₄ => wpAny (model W.prog W.w) A ag Q E s₄) E s₃) ∨ (ok = false ∧ wpAny (model W.prog W.w) A ag Q E s₃)) E s₂) E s₁') E s₁) E s) :
    wpAny (model W.prog W.w) A (turnOf target iter ifs after ag it env) Q E s := by
  unfold turnOf
  refine wpAny_bind (wpAny_standAt (wpAny_bind (wpAny_mono h (fun r s₁ h₁ => ?_) fun _ _ h' => h')))
  cases r with
  | none => exact wpAny_pure h₁
  | some v =>
    refine wpAny_bind (wpAny_mono h₁ (fun _ s₁' h₁' => ?_) fun _ _ h' => h')
    refine wpAny_bind (wpAny_mono h₁' (fun _ s₂ h₂ => wpAny_bind (wpAny_mono h₂ (fun ok s₃ h₃ => ?_) fun _ _ h' => h')) fun _ _ h' => h')
    rcases h₃ with ⟨rfl, h₃⟩ | ⟨rfl, h₃⟩
    · exact wpAny_bind (wpAny_mono h₃ (fun _ _ h => h) fun _ _ h' => h')
    · exact h₃

/-- the state between two turns -/
structure CompAt (W : Wd) (φ : List Loc) (h₀ : Heap) (ρ₁ : List Addr) (l : List V) (D : Addr) (pv : List Addr) (Itr : Nat → Heap → Prop) (stp : Stp) (is : List Nat) (g : G) (k : Hp → List V → Bool) (m : Nat) (s : Shared) : Prop where
  ex : ∃ (i : Nat) (ρ' : List Addr) (H : Hp) (acc : List V) (items : List Value), ρ₁ <+: ρ' ∧ SR W φ h₀ ρ' l H s ∧ PV pv φ h₀ ρ' ∧ PV [D] φ h₀ ρ' ∧ Itr i s.heap ∧ s.heap.PlainList D items.toArray ∧ VRs ρ' acc.reverse items ∧ gLoop stp is g l m i H acc k = true

theorem comp_loop {e : PySem.Expr} {d : Nat} {target iter : PySem.Expr} {ifs : List PySem.Expr} {after : Value → Env → Sem Unit} {tup : Bool} {is : List Nat} {g g' : G} (hL : IsLoop e d target iter ifs after) (ht : Tgt Γ target tup is) (hi : RefI W n Γ ifs g g') (ha : RefA W n Γ after g)
    {I D : Addr} {pv : List Addr} {ρ₁ : List Addr} {stp : Stp} {Itr : Nat → Heap → Prop} (ok : IterOK W I pv tup ρ₁ stp Itr) {A : Around} {R : Result → Shared → Prop} {h₀ : Heap} {φ : List Loc} {env : Env} {l : List V} {k : Hp → List V → Bool} {cnt : Nat} {s : Shared}
    (hR : Room n A) (hE : EnvOK Γ φ env) (hDv : D ∉ pv) (hu : allUnb is l = true) (h : CompAt W φ h₀ ρ₁ l D pv Itr stp is g' k cnt s)
    (hQ : ∀ (acc' : List V) (items' : List Value) (ρ' : List Addr) (H' : Hp) (s' : Shared), ρ₁ <+: ρ' → SR W φ h₀ ρ' l H' s' → PV pv φ h₀ ρ' → PV [D] φ h₀ ρ' → s'.heap.PlainList D items'.toArray → VRs ρ' acc'.reverse items' → k H' acc' = true → R (.ok .next) s') :
    codeAny (model W.prog W.w) A (.compLoop e d (.ref I) (.ref D) env) R s := by
  have hturn := hL.turn
  obtain ⟨elt, gens, scope, pos, rfl⟩ := hL.list
  refine codeAny_loop rfl (fun m s => CompAt W φ h₀ ρ₁ l D pv Itr stp is g' k m s) (fun m s hI => ?_) cnt h
  show wpAny _ A ((compTurn (.ListComp elt gens scope pos) d (.ref I) (.ref D) env).onRaise (fun x => do noteFrame x env; theTreesLotGoes x)) _ _ s
  refine wpAny_noted ?_
  rw [hturn]
  obtain ⟨i, ρ', H, acc, items, hp, R', hv, hv', hi', hD, hacc, hk⟩ := hI
  have hlive : ∀ a ∈ [D], ∃ o, s.heap.get? a = some o := by intro x hx; rw [List.mem_singleton] at hx; subst hx; obtain ⟨nn, e⟩ := hD; exact ⟨_, e⟩
  have hvD : PV pv φ (Mine.guard h₀ s.heap [D]) ρ' := hv.in R'.h (fun x hx q => hDv (by rw [List.mem_singleton] at q; exact q ▸ hx))
  refine turn_mono ?_
  cases m with
  | zero =>
    refine ok.next i A _ s _ ρ' φ l H _ _ hR.hd hp (R'.guard hv') hvD hi' (gLoop_zero hk) (fun hk s' R'' => ?_) (fun x v s' _ hk => by cases hk) fun xs items T s' _ hk => by cases hk
    obtain ⟨a, b, c⟩ := guard_back R'.h hv' hlive R''
    exact hQ acc items ρ' H s' hp a hv hv' (hD.at fun o e => c D (by simp) o e) hacc hk
  | succ m =>
    have hk := gLoop_succ hk
    classical
    refine ht.next (kn := k H acc) (k := fun l' => (g' l' H acc fun h acc => gLoop stp is g' l m (Nat.succ i) h acc k) && decide (Less is l l')) ok hR.hd hE hp (R'.guard hv') hvD hi' (stp := stp) ?_ (fun hk s' R'' => ?_) fun l' s₂ R₂ hi₂ hk₂ => ?_
    · exact ok.mono i H _ _ (fun o ho => by
        cases o with
        | none => exact ho
        | some xs => exact setMany_less ho) hk
    · obtain ⟨a, b, c⟩ := guard_back R'.h hv' hlive R''
      exact hQ acc items ρ' H s' hp a hv hv' (hD.at fun o e => c D (by simp) o e) hacc hk
    · obtain ⟨a, b, c⟩ := guard_back R'.h hv' hlive R₂
      have hD₂ : s₂.heap.PlainList D items.toArray := hD.at fun o e => c D (by simp) o e
      rw [Bool.and_eq_true] at hk₂
      have hless := of_decide_eq_true hk₂.2
      have hvD₂ : PV [D] φ (Mine.guard h₀ s₂.heap pv) ρ' := b.in a.h (fun x hx => by rw [List.mem_singleton] at hx; subst hx; exact hDv)
      have fin : ∀ (acc' : List V) (items' : List Value) (ρ₃ : List Addr) (H₃ : Hp) (s₃ : Shared), ρ' <+: ρ₃ → SR W φ (Mine.guard h₀ s₂.heap pv) ρ₃ l' H₃ s₃ → PV [D] φ (Mine.guard h₀ s₂.heap pv) ρ₃ → s₃.heap.PlainList D items'.toArray → VRs ρ₃ acc'.reverse items' →
          gLoop stp is g' l m (Nat.succ i) H₃ acc' k = true → CompAt W φ h₀ ρ₁ l D pv Itr stp is g' k m s₃ := fun acc' items' ρ₃ H₃ s₃ p₃ R₃ v₃ hD₃ hacc₃ hk₃ => by
        obtain ⟨a₃, b₃, c₃⟩ := SR.unguard ok a.h hv hi₂ R₃
        exact ⟨i + 1, ρ₃, H₃, acc', items', hp.trans p₃, a₃.forget hless (allUnb_of hu), b₃, hv'.out v₃, c₃, hD₃, hacc₃, hk₃⟩
      refine wpAny_mono (tests_go hi ha (Q := fun s₃ => wpAny (model W.prog W.w) A (again (.compLoop (.ListComp elt gens scope pos) d (.ref I) (.ref D) env)) _ _ s₃) hR hE (a.guard hv) hvD₂ hD₂ hacc hk₂.1 fun acc' items' ρ₃ H₃ s₃ p₃ R₃ v₃ hD₃ hacc₃ hk₃ => ?_) (fun ok s₃ h₃ => h₃) fun _ _ h' => h'
      exact wpAny_pure ⟨rfl, m, Nat.lt_succ_self m, fin acc' items' ρ₃ H₃ s₃ p₃ R₃ v₃ hD₃ hacc₃ hk₃⟩
end
end Mine
namespace Mine
open PySem PySem.W PyProof.Rows

theorem PV.weaken {pv : List Addr} {φ : List Loc} {h₀ h₁ : Heap} {ρ : List Addr} (a : PV pv φ h₁ ρ) (hs : ∀ b o, h₀.get? b = some o → h₁.get? b = some o) : PV pv φ h₀ ρ := fun x hx =>
  ⟨(a x hx).1, (by
    cases e : h₀.get? x with
    | none => rfl
    | some o => exact absurd (hs x o e) (by rw [(a x hx).2.1]; exact fun q => nomatch q)), (a x hx).2.2⟩

section
variable {W : Wd} {n : Nat} {Γ : Sc}

theorem codeAny_compStart_list1 {A : Around} {R : Result → Shared → Prop} {s : Shared} {elt target iter target' iter' : PySem.Expr} {ifs ifs' : List PySem.Expr} {scope : Scope} {pos : Pos} {it acc : Value} {env : Env}
    (h0 : codeAny (model W.prog W.w) A (.compLoop (.ListComp elt [⟨target', iter', ifs', 0⟩, ⟨target, iter, ifs, 0⟩] scope pos) 1 it acc env) R s)
    (h : wpAny (model W.prog W.w) A (pyIter it) (fun it' s' => codeAny (model W.prog W.w) A (.compLoop (.ListComp elt [⟨target', iter', ifs', 0⟩, ⟨target, iter, ifs, 0⟩] scope pos) 1 it' acc env) R s')
      (notedBy (model W.prog W.w) A env fun x s' => R (.error x) s') s) :
    codeAny (model W.prog W.w) A (.compStart (.ListComp elt [⟨target', iter', ifs', 0⟩, ⟨target, iter, ifs, 0⟩] scope pos) 1 it acc env) R s := by
  refine codeAny_of_tree ?_
  show wpAny _ _ ((compStart (.ListComp elt [⟨target', iter', ifs', 0⟩, ⟨target, iter, ifs, 0⟩] scope pos) 1 it acc env).onRaise (fun x => do noteFrame x env; standAt theWindowsPlace)) _ _ s
  refine wpAny_notedAt ?_
  unfold compStart
  show wpAny _ _ (ask >>= _) _ _ s
  refine wpAny_bind (wpAny_askSetting (wpAny_ite ?_))
  split
  · first
      | exact wpAny_bind (wpAny_pure (wpAny_pure (And.intro rfl h0)))
      | exact wpAny_pure (And.intro rfl h0)
  · first
      | exact wpAny_bind (wpAny_rule (wpAny_bind (wpAny_standAt (wpAny_bind (wpAny_mono h (fun it' s' h' => wpAny_pure (And.intro rfl h')) fun _ _ x => x)))))
      | (refine wpAny_bind (wpAny_rule ?_); show wpAny _ _ (standAt iter.pos >>= _) _ _ s; exact wpAny_bind (wpAny_standAt (wpAny_bind (wpAny_mono h (fun it' s' h' => wpAny_pure (And.intro rfl h')) fun _ _ x => x))))

theorem RefA.for {elt target iter target' iter' : PySem.Expr} {ifs ifs' : List PySem.Expr} {scope : Scope} {pos : Pos} {tup : Bool} {is : List Nat} {it : It} {F : C} {g' : G}
    (hit : RefIt W n Γ iter tup it) (ht : Tgt Γ target tup is) (he : Ref W n Γ elt F) (hi : RefI W n Γ ifs (gElt F) g') :
    RefA W n Γ (innerL (.ListComp elt [⟨target', iter', ifs', 0⟩, ⟨target, iter, ifs, 0⟩] scope pos) iter 1) (gFor is it g') := by
  intro A E s h₀ ρ φ env l H D items acc k Q hR hE R hv hD hacc h hQ
  have hlive : ∀ a ∈ [D], ∃ o, s.heap.get? a = some o := by intro x hx; rw [List.mem_singleton] at hx; subst hx; obtain ⟨nn, e⟩ := hD; exact ⟨_, e⟩
  refine wpAny_bind (wpAny_mono (hit.run A E s _ ρ φ env l H _ (fun v s₁ => wpAny (model W.prog W.w) A (runOwn (.compStart (.ListComp elt [⟨target', iter', ifs', 0⟩, ⟨target, iter, ifs, 0⟩] scope pos) 1 v (.ref D) env) env) (fun _ s₂ => Q () s₂) E s₁) hR hE (R.guard hv) h fun ρ₁ H₁ s₁ I pv cnt stp Itr p₁ R₁ hv₁ ok hi₀ h₁ => ?_) (fun x s₁ h₁ => ?_) fun _ _ e => e)
  · obtain ⟨a, b, c⟩ := guard_back R.h hv hlive R₁
    have hvp : PV pv φ h₀ ρ₁ := hv₁.weaken (guard_sub R.h.keep)
    have hDp : D ∉ pv := fun hm => by
      have := (hv₁ D hm).2.1
      rw [guard_get R.h.keep, if_pos (by simp)] at this
      obtain ⟨o, e⟩ := hlive D (by simp)
      rw [e] at this; cases this
    obtain ⟨hu, h₂⟩ := chk_of h₁
    have hD₁ : s₁.heap.PlainList D items.toArray := hD.at fun o e => c D (by simp) o e
    have hCA : CompAt W φ h₀ ρ₁ l D pv Itr stp is g' k cnt s₁ := ⟨0, ρ₁, H₁, acc, items, List.prefix_refl _, a, hvp, b, hi₀, hD₁, hacc.mono p₁, h₂⟩
    have loop : ∀ (R' : Result → Shared → Prop), (∀ s', Q () s' → R' (.ok .next) s') → codeAny (model W.prog W.w) (A.mark none) (.compLoop (.ListComp elt [⟨target', iter', ifs', 0⟩, ⟨target, iter, ifs, 0⟩] scope pos) 1 (.ref I) (.ref D) env) R' s₁ := fun R' hR' =>
      comp_loop IsLoop.last2 ht hi (RefA.elt he) ok hR.mark hE hDp hu hCA fun acc' items' ρ' H' s' p' R'' _ hv' hD' hacc' hk => hR' s' (hQ acc' items' ρ' H' s' (p₁.trans p') R'' hv' hD' hacc' hk)
    exact wpAny_runOwn (codeAny_compStart_list1 (loop _ fun s' h => h) (ok.self 0 _ _ _ _ hi₀ (loop _ fun s' h => h)))
  · refine wpAny_bind (wpAny_standAt (wpAny_bind (wpAny_of_eq (hit.fold env x) ?_)))
    refine wpAny_bind (wpAny_holding (wpAny_mono h₁ (fun v s₂ h₂ => ?_) fun _ _ e => e))
    exact wpAny_bind (wpAny_mono h₂ (fun _ s₃ h₃ => wpAny_pure h₃) fun _ _ e => e)
end
end Mine
namespace Mine
open PySem PySem.W PyProof.Rows

/-- a comprehension's scope within another -/
def relS (scope outer : Scope) : Scope :=
  { scope with names := scope.names.map fun (n, k) => if (k == .free && outer.kind == .function && outer.names.lookup n == some .cell) then (n, .cell) else (n, k) }
theorem relabel_eq (scope : Scope) (env : Env) : relabel scope env = relS scope env.scope := rfl

theorem lookup_rel {c : Str → NameKind → Bool} : ∀ {names : List (Str × NameKind)} {x : Str},
    (names.map fun (n, k) => if c n k then (n, NameKind.cell) else (n, k)).lookup x = (names.lookup x).map fun k => if c x k then NameKind.cell else k
  | [], _ => rfl
  | (n, k) :: r, x => by
    show List.lookup x ((if c n k then (n, NameKind.cell) else (n, k)) :: _) = _
    cases hx : x == n with
    | true =>
      have e : x = n := by simpa using hx
      subst e
      by_cases hc : c x k = true
      · rw [if_pos hc]; simp [hc]
      · rw [if_neg hc]; simp [hc]
    | false =>
      by_cases hc : c n k = true
      · rw [if_pos hc]; simp only [List.lookup_cons, hx]; exact lookup_rel
      · rw [if_neg hc]; simp only [List.lookup_cons, hx]; exact lookup_rel

theorem lookup_of_nodup {α : Type} : ∀ {l : List (Str × α)}, (l.map (·.1)).Nodup → ∀ {p : Str × α}, p ∈ l → l.lookup p.1 = some p.2
  | [], _, _, h => nomatch h
  | q :: r, hn, p, h => by
    rw [List.map_cons, List.nodup_cons] at hn
    rcases List.mem_cons.mp h with rfl | h
    · obtain ⟨a, b⟩ := p; simp
    · have : (p.1 == q.1) = false := by
        cases e : p.1 == q.1 with
        | false => rfl
        | true =>
          have e : p.1 = q.1 := by simpa using e
          exact absurd (List.mem_map.mpr ⟨p, h, e⟩) hn.1
      rw [List.lookup_cons, this]
      exact lookup_of_nodup hn.2 h
theorem lookup_isSome {α : Type} : ∀ {l : List (Str × α)} {x : Str} {a : α}, (x, a) ∈ l → ∃ b, l.lookup x = some b
  | [], _, _, h => nomatch h
  | q :: r, x, a, h => by
    rw [List.lookup_cons]
    cases e : x == q.1 with
    | true => exact ⟨_, rfl⟩
    | false =>
      rcases List.mem_cons.mp h with rfl | h
      · simp at e
      · exact lookup_isSome h

-- the closure
noncomputable def closOf (cells : List (Str × Addr)) : List (Str × NameKind) → List (Str × Addr) → List (Str × Addr)
  | [], acc => acc
  | (x, k) :: r, acc => closOf cells r (if k == .free then (x, (cells.lookup x).getD 0) :: acc else acc)
theorem closOf_app {cells : List (Str × Addr)} : ∀ {names : List (Str × NameKind)} {acc : List (Str × Addr)} {p : Str × Addr}, p ∈ closOf cells names acc ↔ p ∈ acc ∨ ∃ x, (x, NameKind.free) ∈ names ∧ p = (x, (cells.lookup x).getD 0)
  | [], acc, p => by simp [closOf]
  | (x, k) :: r, acc, p => by
    unfold closOf
    rw [closOf_app]
    cases hk : k == NameKind.free with
    | false =>
      have hk' : k ≠ .free := by simpa using hk
      simp only [Bool.false_eq_true, if_false, List.mem_cons, Prod.mk.injEq]
      constructor
      · rintro (h | ⟨y, h1, h2⟩)
        · exact .inl h
        · exact .inr ⟨y, .inr h1, h2⟩
      · rintro (h | ⟨y, h1 | h1, h2⟩)
        · exact .inl h
        · exact absurd h1.2.symm hk'
        · exact .inr ⟨y, h1, h2⟩
    | true =>
      have hk' : k = .free := by simpa using hk
      subst hk'
      simp only [if_true, List.mem_cons, Prod.mk.injEq, and_true]
      constructor
      · rintro ((h | h) | ⟨y, h1, h2⟩)
        · exact .inr ⟨x, .inl rfl, h⟩
        · exact .inl h
        · exact .inr ⟨y, .inr h1, h2⟩
      · rintro (h | ⟨y, rfl | h1, h2⟩)
        · exact .inl (.inr h)
        · exact .inl (.inl h2)
        · exact .inr ⟨y, h1, h2⟩
theorem closureFor_eq {scope : Scope} {env : Env} (h : ∀ p ∈ scope.names, p.2 = .free → ∃ c, env.cells.lookup p.1 = some c) : closureFor scope env = pure (closOf env.cells scope.names []) := by
  have key : ∀ (f : Str × NameKind → List (Str × Addr) → Sem (ForInStep (List (Str × Addr)))), (∀ name kind cs, f (name, kind) cs = if (kind == NameKind.free) = true then (do let a ← cellOf env name; pure (ForInStep.yield ((name, a) :: cs))) else pure (ForInStep.yield cs)) →
      ∀ (names : List (Str × NameKind)) (acc : List (Str × Addr)), (∀ p ∈ names, p.2 = .free → ∃ c, env.cells.lookup p.1 = some c) → forIn names acc f = pure (closOf env.cells names acc) := by
    intro f hf names
    induction names with
    | nil => intro acc _; rfl
    | cons p r ih =>
      intro acc hp
      obtain ⟨x, k⟩ := p
      rw [List.forIn_cons, hf]
      unfold closOf
      cases hk : k == NameKind.free with
      | false =>
        rw [if_neg (by simp), if_neg (by simp), pure_bind]
        exact ih acc fun p h => hp p (List.mem_cons_of_mem _ h)
      | true =>
        obtain ⟨c, hc⟩ := hp (x, k) List.mem_cons_self (by simpa using hk)
        have hc : env.cells.lookup x = some c := hc
        have e : cellOf env x = pure c := by unfold cellOf; rw [hc]
        rw [if_pos rfl, if_pos rfl, e, pure_bind, pure_bind, hc, Option.getD_some]
        exact ih _ fun p h => hp p (List.mem_cons_of_mem _ h)
  unfold closureFor
  exact (congrArg (fun m : Sem (List (Str × Addr)) => m >>= fun cs => pure cs) (key _ (fun name kind cs => rfl) scope.names [] h)).trans rfl
theorem clos_lookup {cells : List (Str × Addr)} {names : List (Str × NameKind)} (h : ∀ p ∈ names, p.2 = .free → ∃ c, cells.lookup p.1 = some c) {x : Str} (hx : (x, NameKind.free) ∈ names) : (closOf cells names []).lookup x = cells.lookup x := by
  obtain ⟨b, hb⟩ := lookup_isSome (closOf_app.mpr (.inr ⟨x, hx, rfl⟩) : _ ∈ closOf cells names [])
  rw [hb]
  have hm := mem_of_lookup hb
  rcases closOf_app.mp hm with h' | ⟨y, hy, e⟩
  · cases h'
  · obtain ⟨c, hc⟩ := h _ hy rfl
    have hc : cells.lookup y = some c := hc
    rw [hc] at e
    cases e
    rw [hc]; rfl

-- own cells
theorem cellsFrom_cons (m : Nat) (x : Str) (k : NameKind) (r : List (Str × NameKind)) (acc : List (Str × Addr)) : cellsFrom m ((x, k) :: r) acc = if k == .cell then cellsFrom (m + 1) r ((x, m) :: acc) else cellsFrom m r acc := rfl
theorem cellsFrom_nil (m : Nat) (acc : List (Str × Addr)) : cellsFrom m [] acc = acc := rfl
theorem cellsFrom_app : ∀ (names : List (Str × NameKind)) (m : Nat) (acc : List (Str × Addr)), cellsFrom m names acc = cellsFrom m names [] ++ acc
  | [], m, acc => rfl
  | (x, k) :: r, m, acc => by
    rw [cellsFrom_cons, cellsFrom_cons]
    cases k == NameKind.cell with
    | true => simp only [if_true]; rw [cellsFrom_app r (m + 1) ((x, m) :: acc), cellsFrom_app r (m + 1) [(x, m)]]; simp
    | false => simp only [Bool.false_eq_true, if_false]; exact cellsFrom_app r m acc
theorem cellsFrom_mem : ∀ {names : List (Str × NameKind)} {m : Nat} {acc : List (Str × Addr)} {x : Str}, (∃ c, (x, c) ∈ cellsFrom m names acc) ↔ ((∃ c, (x, c) ∈ acc) ∨ (x, NameKind.cell) ∈ names)
  | [], m, acc, x => by simp [cellsFrom_nil]
  | (y, k) :: r, m, acc, x => by
    rw [cellsFrom_cons]
    cases hk : k == NameKind.cell with
    | true =>
      have hk' : k = .cell := by simpa using hk
      subst hk'
      simp only [if_true]
      rw [cellsFrom_mem]
      simp only [List.mem_cons, Prod.mk.injEq, and_true]
      constructor
      · rintro (⟨c, h | h⟩ | h)
        · exact .inr (.inl h.1)
        · exact .inl ⟨c, h⟩
        · exact .inr (.inr h)
      · rintro (⟨c, h⟩ | h | h)
        · exact .inl ⟨c, .inr h⟩
        · exact .inl ⟨m, .inl ⟨h, rfl⟩⟩
        · exact .inr h
    | false =>
      have hk' : k ≠ .cell := by simpa using hk
      simp only [Bool.false_eq_true, if_false]
      rw [cellsFrom_mem]
      simp only [List.mem_cons, Prod.mk.injEq]
      constructor
      · rintro (h | h)
        · exact .inl h
        · exact .inr (.inr h)
      · rintro (h | h | h)
        · exact .inl h
        · exact absurd h.2.symm hk'
        · exact .inr h
theorem lookup_app {α : Type} {x : Str} : ∀ {a b : List (Str × α)}, (a ++ b).lookup x = (a.lookup x).or (b.lookup x)
  | [], b => by simp
  | (y, v) :: a, b => by
    rw [List.cons_append, List.lookup_cons, List.lookup_cons]
    cases x == y with
    | true => rfl
    | false => exact lookup_app

theorem wpAny_newCompEnv {M : Model} {A : Around} {E : Value → Shared → Prop} {s : Shared} {scope : Scope} {globals : Addr} {cl : List (Str × Addr)} {qual : Str} {func : Option Addr} {code : Value} {outer : Env} {bi : Addr} {Q : Env → Shared → Prop}
    (hQ : Q (newEnv scope s.heap.objs.size globals (cellsFrom (s.heap.objs.size + 1) scope.names cl) qual func code (some outer) bi) { s with heap := pushCells (s.heap.push { cls := .type "dict", data := .dict #[] }) scope.names }) :
    wpAny M A (newFunctionEnv scope globals cl [] qual func code (some outer) bi) Q E s := by
  simp only [newFunctionEnv, Option.isSome_some, if_true]
  refine wpAny_bind (wpAny_alloc ?_)
  refine wpAny_bind (wpAny_layCells _ (fun name kind cells => by cases hkc : kind == NameKind.cell <;> simp) _ _ _ _ ?_)
  rw [show ({ s with heap := s.heap.push { cls := .type "dict", data := .dict #[] } } : Shared).heap.objs.size = s.heap.objs.size + 1 from Heap.size_push ..]
  exact wpAny_bind (wpAny_pure (wpAny_pure hQ))
end Mine
namespace Mine
open PySem PySem.W PyProof.Rows

/-- the scope of a comprehension: its own names stand first, behind them one place that nothing names, then the places around -/
structure CompSc (Γ Γ' : Sc) (scope : Scope) (own : List Str) : Prop where
  sc : Γ'.sc = relS scope Γ.sc
  kind : scope.kind = .function
  nd : (scope.names.map (·.1)).Nodup
  ownd : own.Nodup
  ownk : ∀ x ∈ own, scope.names.lookup x = some .local ∨ scope.names.lookup x = some .cell
  ne : ("" : Str) ∉ own
  free : ∀ p ∈ scope.names, p.2 = .free → (Γ.names.lookup p.1).isSome ∧ Γ.sc.names.lookup p.1 ≠ some .local
  slot : ∀ p ∈ Γ'.names, (p.2 < own.length ∧ own[p.2]? = some p.1) ∨ (own.length + 1 ≤ p.2 ∧ scope.names.lookup p.1 = some .free ∧ Γ.names.lookup p.1 = some (p.2 - (own.length + 1)))

def locOf (scope : Scope) (C : Addr) (cs : List (Str × Addr)) (x : Str) : Loc := if scope.names.lookup x = some .local then .var C x else .cell ((cs.lookup x).getD 0)
/-- the places that a comprehension adds -/
def compLocs (scope : Scope) (C : Addr) (own : List Str) : List Loc := own.map (locOf scope C (cellsFrom (C + 1) scope.names [])) ++ [.var C ""]
theorem unbsOn_eq (m : Nat) (l : List V) : unbsOn m l = List.replicate m .unb ++ l := by
  induction m with
  | zero => rfl
  | succ m ih => show V.unb :: unbsOn m l = _; rw [ih]; rfl

section
variable {W : Wd} {n : Nat} {Γ Γ' : Sc} {scope : Scope} {own : List Str}

theorem own_cell (cs : CompSc Γ Γ' scope own) {C : Addr} {x : Str} (hx : x ∈ own) (h : scope.names.lookup x ≠ some .local) : ∃ c, (cellsFrom (C + 1) scope.names []).lookup x = some c := by
  have hc : scope.names.lookup x = some .cell := (cs.ownk x hx).resolve_left h
  obtain ⟨c, hm⟩ := (cellsFrom_mem (m := C + 1) (acc := [])).mpr (.inr (mem_of_lookup hc))
  exact lookup_isSome hm

theorem comp_FR (cs : CompSc Γ Γ' scope own) {φ : List Loc} {h₀ : Heap} {ρ : List Addr} {l : List V} {H : Hp} {s : Shared} (R : SR W φ h₀ ρ l H s) :
    SR W (compLocs scope s.heap.objs.size own ++ φ) h₀ ρ (unbsOn (own.length + 1) l) H { s with heap := pushCells (s.heap.push { cls := .type "dict", data := .dict #[] }) scope.names } ∧ PV [s.heap.objs.size] φ h₀ ρ ∧ ∀ lc ∈ compLocs scope s.heap.objs.size own, (s.heap.objs.size : Nat) ≤ lc.addr := by
  have keep : ∀ b o, s.heap.get? b = some o → (pushCells (s.heap.push { cls := .type "dict", data := .dict #[] }) scope.names).get? b = some o := fun b o e => pushCells_keeps _ _ b o (Heap.get?_push_of_some _ e)
  have ns : (pushCells (s.heap.push { cls := .type "dict", data := .dict #[] }) scope.names).Ns s.heap.objs.size (fun _ => none) := (Heap.Ns.new s.heap (.type "dict")).keeps (pushCells_keeps _ _)
  have ok := cellsFrom_ok scope.names (s.heap.push { cls := .type "dict", data := .dict #[] }) (s.heap.objs.size + 1) [] ⟨fun _ _ hm => (nomatch hm), List.Pairwise.nil⟩ (by rw [Heap.size_push]; exact Nat.le_refl _)
  rw [Heap.size_push] at ok
  generalize hh : pushCells (s.heap.push { cls := .type "dict", data := .dict #[] }) scope.names = h1 at keep ns ok ⊢
  have hloc : ∀ lc ∈ compLocs scope s.heap.objs.size own, lc.ok h1 ∧ (s.heap.objs.size : Nat) ≤ lc.addr := by
    intro lc hm
    rcases List.mem_append.mp hm with hm | hm
    · obtain ⟨x, hx, rfl⟩ := List.mem_map.mp hm
      unfold locOf
      by_cases q : scope.names.lookup x = some .local
      · rw [if_pos q]; exact ⟨⟨_, ns⟩, Nat.le_refl _⟩
      · rw [if_neg q]
        obtain ⟨c, hc⟩ := own_cell cs (C := s.heap.objs.size) hx q
        rw [hc]
        have := ok.empty x c (mem_of_lookup hc)
        exact ⟨⟨_, this.1⟩, Nat.le_of_succ_le this.2⟩
    · rw [List.mem_singleton] at hm; subst hm
      exact ⟨⟨_, ns⟩, Nat.le_refl _⟩
  have R' : SR W φ h₀ ρ l H { s with heap := h1 } := R.ext keep
  have fresh : ∀ a, (s.heap.objs.size : Nat) ≤ a → a ∉ ρ ∧ h₀.get? a = none ∧ ∀ lc ∈ φ, lc.addr ≠ a := fun a ha => PV.fresh R (pv := [a]) (by simpa using ha) a (by simp)
  have cellApart : ∀ x ∈ own, ∀ y ∈ own, x ≠ y → scope.names.lookup x ≠ some .local → scope.names.lookup y ≠ some .local → ((cellsFrom (s.heap.objs.size + 1) scope.names []).lookup x).getD 0 ≠ ((cellsFrom (s.heap.objs.size + 1) scope.names []).lookup y).getD 0 := by
    intro x hx y hy hne h1 h2 he
    obtain ⟨c, hc⟩ := own_cell cs (C := s.heap.objs.size) hx h1
    obtain ⟨d, hd⟩ := own_cell cs (C := s.heap.objs.size) hy h2
    rw [hc, hd] at he
    have he : c = d := he
    subst he
    exact hne (name_of_addr ok.apart (mem_of_lookup hc) (mem_of_lookup hd))
  have cellHigh : ∀ x ∈ own, scope.names.lookup x ≠ some .local → s.heap.objs.size ≠ ((cellsFrom (s.heap.objs.size + 1) scope.names []).lookup x).getD 0 := by
    intro x hx h1 he
    obtain ⟨c, hc⟩ := own_cell cs (C := s.heap.objs.size) hx h1
    rw [hc] at he
    have he : s.heap.objs.size = c := he
    have := (ok.empty x c (mem_of_lookup hc)).2
    rw [← he] at this
    exact Nat.not_succ_le_self _ this
  refine ⟨⟨R'.h, ⟨?_, fun lc hm => ?_, fun i lc x h1 h2 hx => ?_, ?_, fun lc hm => ?_, fun lc hm => ?_⟩⟩, PV.fresh R (by simp), fun lc hm => (hloc lc hm).2⟩
  · rw [unbsOn_eq]; simp [compLocs, R.f.len]; omega
  · rcases List.mem_append.mp hm with hm | hm
    · exact (hloc lc hm).1
    · exact R'.f.ok lc hm
  · rw [unbsOn_eq] at h2
    have hl : (compLocs scope s.heap.objs.size own).length = own.length + 1 := by simp [compLocs]
    by_cases q : i < own.length + 1
    · rw [List.getElem?_append_left (by simpa using q), List.getElem?_replicate, if_pos q] at h2
      cases h2; exact absurd rfl hx
    · rw [List.getElem?_append_right (by simpa using Nat.le_of_not_lt q), List.length_replicate] at h2
      rw [List.getElem?_append_right (by rw [hl]; exact Nat.le_of_not_lt q), hl] at h1
      exact R'.f.has _ lc x h1 h2 hx
  · rw [List.pairwise_append]
    refine ⟨?_, R.f.apart, fun a ha b hb => ?_⟩
    · unfold compLocs
      rw [List.pairwise_append]
      refine ⟨?_, List.pairwise_singleton _ _, fun a ha b hb => ?_⟩
      · rw [List.pairwise_map]
        refine List.Pairwise.imp_of_mem (fun {x y} hx hy hne => ?_) cs.ownd
        unfold locOf
        by_cases q1 : scope.names.lookup x = some .local <;> by_cases q2 : scope.names.lookup y = some .local
        · rw [if_pos q1, if_pos q2]; exact .inr hne
        · rw [if_pos q1, if_neg q2]; exact cellHigh y hy q2
        · rw [if_neg q1, if_pos q2]; exact cellHigh x hx q1
        · rw [if_neg q1, if_neg q2]; exact cellApart x hx y hy hne q1 q2
      · obtain ⟨x, hx, rfl⟩ := List.mem_map.mp ha
        rw [List.mem_singleton] at hb; subst hb
        unfold locOf
        by_cases q1 : scope.names.lookup x = some .local
        · rw [if_pos q1]; exact .inr fun e => cs.ne (e ▸ hx)
        · rw [if_neg q1]; exact cellHigh x hx q1
    · have h1 := (hloc a ha).2
      have h2 := (fresh a.addr h1).2.2 b hb
      cases a <;> cases b <;> first | exact h2 | exact Ne.symm h2 | exact Or.inl (Ne.symm h2)
  · rcases List.mem_append.mp hm with hm | hm
    · exact (fresh _ (hloc lc hm).2).1
    · exact R.f.nρ lc hm
  · rcases List.mem_append.mp hm with hm | hm
    · exact (fresh _ (hloc lc hm).2).2.1
    · exact R.f.n0 lc hm

theorem comp_closure (cs : CompSc Γ Γ' scope own) {φ : List Loc} {env : Env} (hE : EnvOK Γ φ env) : ∀ p ∈ scope.names, p.2 = .free → ∃ c, env.cells.lookup p.1 = some c := by
  intro p hp hf
  obtain ⟨h1, h2⟩ := cs.free p hp hf
  obtain ⟨i, hi⟩ := Option.isSome_iff_exists.mp h1
  obtain ⟨lc, _, hlc⟩ := hE.slot p.1 i hi
  rcases hlc with ⟨h3, _⟩ | ⟨_, c, hc, _⟩
  · exact absurd h3 h2
  · exact ⟨c, hc⟩
theorem comp_env (cs : CompSc Γ Γ' scope own) {φ : List Loc} {env : Env} (hE : EnvOK Γ φ env) (C : Addr) (cenv : Env)
    (h1 : cenv.scope = relS scope env.scope) (h2 : cenv.locals = C) (h3 : cenv.globals = env.globals) (h4 : cenv.builtins = env.builtins) (h5 : cenv.cells = cellsFrom (C + 1) scope.names (closOf env.cells scope.names [])) :
    EnvOK Γ' (compLocs scope C own ++ φ) cenv := by
  have hsc : cenv.scope = Γ'.sc := by rw [h1, hE.sc, cs.sc]
  have hk : Γ'.sc.kind = .function := by rw [cs.sc]; exact cs.kind
  have hnm : ∀ x : Str, Γ'.sc.names.lookup x = (scope.names.lookup x).map fun k => if (k == NameKind.free && Γ.sc.kind == .function && Γ.sc.names.lookup x == some .cell) then NameKind.cell else k := fun x => by
    rw [cs.sc]; exact lookup_rel (c := fun n k => k == NameKind.free && Γ.sc.kind == .function && Γ.sc.names.lookup n == some .cell)
  have hl : (compLocs scope C own).length = own.length + 1 := by simp [compLocs]
  refine ⟨hsc, hk, by rw [h3]; exact hE.glob, by rw [h4]; exact hE.bi, fun x i hx => ?_⟩
  rcases cs.slot (x, i) (mem_of_lookup hx) with ⟨hi, ho⟩ | ⟨hi, hf, hg⟩
  · have hi : i < own.length := hi
    have ho : own[i]? = some x := ho
    have hm : x ∈ own := List.mem_of_getElem? ho
    refine ⟨locOf scope C (cellsFrom (C + 1) scope.names []) x, ?_, ?_⟩
    · rw [List.getElem?_append_left (by rw [hl]; omega)]
      unfold compLocs
      rw [List.getElem?_append_left (by simpa using hi), List.getElem?_map, ho]; rfl
    · unfold locOf
      by_cases q : scope.names.lookup x = some .local
      · rw [if_pos q]
        left
        rw [hnm, q, h2]
        exact ⟨rfl, rfl⟩
      · rw [if_neg q]
        right
        obtain ⟨c, hc⟩ := own_cell cs (C := C) hm q
        refine ⟨.inl ?_, c, ?_, by rw [hc]; rfl⟩
        · rw [hnm, (cs.ownk x hm).resolve_left q]; rfl
        · rw [h5, cellsFrom_app, lookup_app, hc]; rfl
  · have hi : own.length + 1 ≤ i := hi
    have hf : scope.names.lookup x = some .free := hf
    have hg : Γ.names.lookup x = some (i - (own.length + 1)) := hg
    obtain ⟨lc, h6, h7⟩ := hE.slot x _ hg
    refine ⟨lc, by rw [List.getElem?_append_right (by rw [hl]; exact hi), hl]; exact h6, ?_⟩
    rcases h7 with ⟨h8, _⟩ | ⟨h8, c, hc, e⟩
    · exact absurd h8 (cs.free (x, .free) (mem_of_lookup hf) rfl).2
    · right
      refine ⟨?_, c, ?_, e⟩
      · rw [hnm, hf]
        rcases h8 with h8 | h8
        · left; rw [h8, hE.kind]; rfl
        · right; rw [h8]; simp
      · have hn : (cellsFrom (C + 1) scope.names []).lookup x = none := by
          cases q : (cellsFrom (C + 1) scope.names []).lookup x with
          | none => rfl
          | some d =>
            rcases (cellsFrom_mem (m := C + 1) (acc := [])).mp ⟨d, mem_of_lookup q⟩ with ⟨_, h⟩ | h
            · cases h
            · have := lookup_of_nodup cs.nd h
              rw [hf] at this; cases this
        rw [h5, cellsFrom_app, lookup_app, hn, Option.none_or, clos_lookup (comp_closure cs hE) (mem_of_lookup hf)]
        exact hc

theorem FR.drop {φ ψ : List Loc} {h₀ : Heap} {ρ : List Addr} {m l : List V} {s : Shared} (F : FR (ψ ++ φ) h₀ ρ (m ++ l) s) (hm : m.length = ψ.length) : FR φ h₀ ρ l s :=
  ⟨by have := F.len; simp [hm] at this; exact this, fun lc h => F.ok lc (List.mem_append_right _ h), fun i lc x h1 h2 hx => F.has (ψ.length + i) lc x (by rw [List.getElem?_append_right (Nat.le_add_right _ _)]; simpa using h1) (by rw [← hm, List.getElem?_append_right (Nat.le_add_right _ _)]; simpa using h2) hx,
    (List.pairwise_append.mp F.apart).2.1, fun lc h => F.nρ lc (List.mem_append_right _ h), fun lc h => F.n0 lc (List.mem_append_right _ h)⟩
/-- a private list is taken on -/
theorem SR.take {φ : List Loc} {h₀ : Heap} {ρ : List Addr} {l : List V} {H : Hp} {s : Shared} {D : Addr} {o : Ob} (R : SR W φ h₀ ρ l H s) (hv : PV [D] φ h₀ ρ) (ho : OB W (ρ ++ [D]) s.heap D o) : SR W φ h₀ (ρ ++ [D]) l ⟨H.t.put o H.n, H.n.succ⟩ s := by
  obtain ⟨h1, h2, h3⟩ := hv D (by simp)
  have pre : ρ <+: ρ ++ [D] := List.prefix_append _ _
  refine ⟨⟨by simp [R.h.len], List.nodup_append.mpr ⟨R.h.nd, by simp, fun x hx y hy => by simp at hy; subst hy; rintro rfl; exact h1 hx⟩, fun k o' e => ?_, fun b hb => ?_, R.h.keep, fun b hb => ?_, R.h.base, R.h.os, R.h.bare, R.h.bok⟩, ⟨R.f.len, R.f.ok, fun i lc x e1 e2 hx => let ⟨v, a, b⟩ := R.f.has i lc x e1 e2 hx; ⟨v, a, b.mono pre⟩, R.f.apart, fun lc h hm => ?_, R.f.n0⟩⟩
  · rcases Tr.get_put o H.t H.n k e with ⟨rfl, rfl⟩ | ⟨_, e'⟩
    · exact ⟨D, by rw [← R.h.len]; simp, ho⟩
    · obtain ⟨b, hb, hob⟩ := R.h.obj k o' e'
      exact ⟨b, get_pre pre hb, hob.mono pre⟩
  · rcases List.mem_append.mp hb with h | h
    · exact R.h.live b h
    · simp at h; subst h; exact ho.some
  · rcases List.mem_append.mp hb with h | h
    · exact R.h.sep b h
    · simp at h; subst h; exact h2
  · rcases List.mem_append.mp hm with h' | h'
    · exact R.f.nρ lc h h'
    · simp at h'; exact h3 lc h h'
end
end Mine
namespace Mine
open PySem PySem.W PyProof.Rows
section
variable {W : Wd} {n : Nat} {Γ Γ' : Sc} {scope : Scope} {own : List Str}

theorem comp_core {elt target iter : PySem.Expr} {ifs : List PySem.Expr} {rest : List Comprehension} {pos : Pos} {p' : Pos} {after : Value → Env → Sem Unit} {tup : Bool} {is : List Nat} {it : It} {g g' : G}
    (cs : CompSc Γ Γ' scope own) (hL : IsLoop (.ListComp elt (⟨target, iter, ifs, 0⟩ :: rest) scope pos) 0 target iter ifs after) (hit : RefIt W n Γ iter tup it) (ht : Tgt Γ' target tup is) (hi : RefI W n Γ' ifs g g') (ha : RefA W n Γ' after g)
    {A : Around} {E : Value → Shared → Prop} {s : Shared} {h₀ : Heap} {ρ : List Addr} {φ : List Loc} {env : Env} {l : List V} {H : Hp} {kk : Hp → List V → Bool} {use : Option (Value → Sem Unit)} {Q : Value → Shared → Prop}
    (hR : Room n A) (hE : EnvOK Γ φ env) (R : SR W φ h₀ ρ l H s)
    (h : it l H (fun cnt stp h => chk (allUnb is (unbsOn (own.length + 1) l)) (gLoop stp is g' (unbsOn (own.length + 1) l) cnt 0 h [] kk)) = true)
    (fin : ∀ (D C : Addr) (ρ' : List Addr) (H' : Hp) (s' : Shared) (acc' : List V) (items' : List Value), ρ <+: ρ' → SR W φ h₀ ρ' l H' s' → PV [D] φ h₀ ρ' → PV [C] φ h₀ ρ' → D ≠ C → s'.heap.PlainList D items'.toArray → VRs ρ' acc'.reverse items' → kk H' acc' = true → (∃ m, s'.heap.Ns C m) →
      compPost (model W.prog W.w) A E use Q (.ref D) C (.ok .next) s') :
    wpAny (model W.prog W.w) A (comprehension (.ListComp elt (⟨target, iter, ifs, 0⟩ :: rest) scope pos) scope env p' (newList []) false (eval iter env) use) Q E s := by
  have hclos := closureFor_eq (comp_closure cs hE)
  refine wpAny_comprehension_free rfl (hit.fold env) hclos cs.kind (fun x hx hl => by rw [lookup_of_nodup cs.nd hx, hl]) ?_
  refine hit.run A E s h₀ ρ φ env l H _ _ hR hE R h fun ρ₁ H₁ s₁ I pv cnt stp Itr p₁ R₁ hv ok hi₀ h₁ => ?_
  obtain ⟨hu, h₂⟩ := chk_of h₁
  refine wpAny_newObj_type ?_
  have R₂ : SR W φ h₀ ρ₁ l H₁ { s₁ with heap := s₁.heap.push { cls := .type "list", data := .seq #[] } } := R₁.push _ s₁.toks
  have hsz : (s₁.heap.push { cls := .type "list", data := .seq #[] }).objs.size = s₁.heap.objs.size + 1 := Heap.size_push ..
  obtain ⟨R₃, hC, hlocs⟩ := comp_FR cs R₂
  refine wpAny_newCompEnv ?_
  have hD₂ : (s₁.heap.push { cls := .type "list", data := .seq #[] }).PlainList s₁.heap.objs.size #[] := ⟨0, Heap.get?_push_size _ rfl⟩
  have hvD : PV [s₁.heap.objs.size] φ h₀ ρ₁ := PV.fresh R₁ (by simp)
  change SR W (compLocs scope (s₁.heap.push { cls := .type "list", data := .seq #[] }).objs.size own ++ φ) h₀ ρ₁ (unbsOn (own.length + 1) l) H₁ { s₁ with heap := pushCells ((s₁.heap.push { cls := .type "list", data := .seq #[] }).push { cls := .type "dict", data := .dict #[] }) scope.names } at R₃
  change PV [(s₁.heap.push { cls := .type "list", data := .seq #[] }).objs.size] φ h₀ ρ₁ at hC
  change ∀ lc ∈ compLocs scope (s₁.heap.push { cls := .type "list", data := .seq #[] }).objs.size own, ((s₁.heap.push { cls := .type "list", data := .seq #[] }).objs.size : Nat) ≤ lc.addr at hlocs
  have keep : ∀ b o, (s₁.heap.push { cls := .type "list", data := .seq #[] }).get? b = some o → (pushCells ((s₁.heap.push { cls := .type "list", data := .seq #[] }).push { cls := .type "dict", data := .dict #[] }) scope.names).get? b = some o := fun b o e => pushCells_keeps _ _ b o (Heap.get?_push_of_some _ e)
  generalize hCC : (s₁.heap.push { cls := .type "list", data := .seq #[] }).objs.size = C at hsz hC hlocs R₃ ⊢
  have hCsz : C = s₁.heap.objs.size + 1 := hsz
  have lift : ∀ {pw : List Addr} {ρ' : List Addr}, (∀ a ∈ pw, @LT.lt Nat _ a C) → PV pw φ h₀ ρ' → PV pw (compLocs scope C own ++ φ) h₀ ρ' := fun {pw ρ'} hlt hpw a ha => ⟨(hpw a ha).1, (hpw a ha).2.1, fun lc hm => by
    rcases List.mem_append.mp hm with hm | hm
    · have h1 := hlocs lc hm
      have h2 := hlt a ha
      intro e
      rw [e] at h1
      exact absurd h2 (Nat.not_lt.mpr h1)
    · exact (hpw a ha).2.2 lc hm⟩
  have hpvlt : ∀ a ∈ pv, @LT.lt Nat _ a s₁.heap.objs.size := fun a ha => let ⟨o, e⟩ := ok.live 0 _ hi₀ a ha; Heap.lt_size e
  have hDv : (s₁.heap.objs.size : Addr) ∉ pv := fun hm => Nat.lt_irrefl _ (hpvlt _ hm)
  have hcenv : EnvOK Γ' (compLocs scope C own ++ φ) { newEnv scope C env.globals (cellsFrom (C + 1) scope.names (closOf env.cells scope.names [])) env.qual none .none (some env) builtinsNs with scope := relabel scope env } :=
    comp_env cs hE C _ rfl rfl rfl rfl rfl
  have hCA : CompAt W (compLocs scope C own ++ φ) h₀ ρ₁ (unbsOn (own.length + 1) l) s₁.heap.objs.size pv Itr stp is g' kk cnt { s₁ with heap := pushCells ((s₁.heap.push { cls := .type "list", data := .seq #[] }).push { cls := .type "dict", data := .dict #[] }) scope.names } :=
    ⟨0, ρ₁, H₁, [], [], List.prefix_refl _, R₃, lift (fun a ha => by have := hpvlt a ha; rw [hCsz]; exact Nat.lt_succ_of_lt this) hv, lift (fun a ha => by simp at ha; rw [ha, hCsz]; exact Nat.lt_succ_self _) hvD,
      ok.frame 0 _ _ hi₀ fun a _ o e => keep a o (Heap.get?_push_of_some _ e), hD₂.at fun o e => keep _ o e, trivial, h₂⟩
  have loop : ∀ (R' : Result → Shared → Prop), (∀ s', compPost (model W.prog W.w) A E use Q (.ref s₁.heap.objs.size) C (.ok .next) s' → R' (.ok .next) s') →
      codeAny (model W.prog W.w) A (.compLoop (.ListComp elt (⟨target, iter, ifs, 0⟩ :: rest) scope pos) 0 (.ref I) (.ref s₁.heap.objs.size) { newEnv scope C env.globals (cellsFrom (C + 1) scope.names (closOf env.cells scope.names [])) env.qual none .none (some env) builtinsNs with scope := relabel scope env }) R'
        { s₁ with heap := pushCells ((s₁.heap.push { cls := .type "list", data := .seq #[] }).push { cls := .type "dict", data := .dict #[] }) scope.names } := fun R' hR' =>
    comp_loop hL ht hi ha ok hR hcenv hDv hu hCA fun acc' items' ρ' H' s' p' R'' _ hvD' hD' hacc' hk => hR' s' <| by
      have hdrop : SR W φ h₀ ρ' l H' s' := ⟨R''.h, by
        have := R''.f
        rw [unbsOn_eq] at this
        exact this.drop (by simp [compLocs])⟩
      have hmem : Loc.var C "" ∈ compLocs scope C own ++ φ := List.mem_append_left _ (List.mem_append_right _ (by simp))
      have hPC : PV [C] φ h₀ ρ' := fun a ha => by
        simp at ha; subst ha
        exact ⟨R''.f.nρ _ hmem, R''.f.n0 _ hmem, (hC _ (by simp)).2.2⟩
      exact fin _ C ρ' H' s' acc' items' (p₁.trans p') hdrop (fun a ha => ⟨(hvD' a ha).1, (hvD' a ha).2.1, fun lc hm => (hvD' a ha).2.2 lc (List.mem_append_right _ hm)⟩) hPC (by rw [hCsz]; exact Nat.ne_of_lt (Nat.lt_succ_self _)) hD' hacc' hk (R''.f.ok _ hmem)
  exact codeAny_compStart_list (loop _ fun _ h => h) (ok.self 0 _ _ _ _ (ok.frame 0 _ _ hi₀ fun a _ o e => keep a o (Heap.get?_push_of_some _ e)) (loop _ fun _ h => h))

theorem Ref.comp {elt target iter : PySem.Expr} {ifs : List PySem.Expr} {rest : List Comprehension} {pos : Pos} {after : Value → Env → Sem Unit} {tup : Bool} {is : List Nat} {it : It} {g g' : G} {m : Nat}
    (cs : CompSc Γ Γ' scope own) (hm : m = own.length + 1) (hL : IsLoop (.ListComp elt (⟨target, iter, ifs, 0⟩ :: rest) scope pos) 0 target iter ifs after) (hit : RefIt W n Γ iter tup it) (ht : Tgt Γ' target tup is) (hi : RefI W n Γ' ifs g g') (ha : RefA W n Γ' after g) :
    Ref W n Γ (.ListComp elt (⟨target, iter, ifs, 0⟩ :: rest) scope pos) (cComp m is it g') := by
  intro A E s h₀ ρ φ env l H k Q hR hE R h hP
  subst hm
  rw [eval_ListComp]
  refine comp_core cs hL hit ht hi ha hR hE R h fun D C ρ' H' s' acc' items' p' R' hvD hvC hne hD hacc hk hC => ?_
  obtain ⟨mm, hmm⟩ := hC
  refine ⟨mm, hmm, fun h' hs' => ?_⟩
  have R₂ : SR W φ h₀ ρ' l H' { s' with heap := h' } := R'.priv hvC fun b o hb e => hs'.extBut b o (fun q => hb (by simp [q])) e
  have hD₂ : h'.PlainList D items'.toArray := hD.extBut hs'.extBut hne
  rw [revL_eq, List.append_nil] at hk
  exact hP _ (.ref H'.n) _ _ _ (p'.trans (List.prefix_append _ _)) (R₂.take (o := .list acc'.reverse) hvD ⟨items', hD₂, hacc.mono (List.prefix_append _ _)⟩) (newRef R'.h.len) hk

/-- x = [..], where the name is stored ahead of the comprehension's own going -/
theorem Ref1.setComp {elt target iter : PySem.Expr} {ifs : List PySem.Expr} {rest : List Comprehension} {pos spos : Pos} {after : Value → Env → Sem Unit} {tup : Bool} {is : List Nat} {it : It} {g g' : G} {m i : Nat} {y : Str} {py : Pos}
    (cs : CompSc Γ Γ' scope own) (hm : m = own.length + 1) (hL : IsLoop (.ListComp elt (⟨target, iter, ifs, 0⟩ :: rest) scope pos) 0 target iter ifs after) (hit : RefIt W n Γ iter tup it) (ht : Tgt Γ' target tup is) (hi : RefI W n Γ' ifs g g') (ha : RefA W n Γ' after g)
    (hx : Γ.names.lookup y = some i) (hf : Γ.sc.names.lookup y ≠ some .free)
    (hsw : ∀ env : Env, env.scope = Γ.sc → swapsWith (.ListComp elt (⟨target, iter, ifs, 0⟩ :: rest) scope pos) (some (.Name y py)) spos.line env = pure true) :
    Ref1 W n Γ (.Assign [.Name y py] (.ListComp elt (⟨target, iter, ifs, 0⟩ :: rest) scope pos) spos) (sSet i (cComp m is it g')) := by
  intro A E s h₀ ρ φ env l H kn kr kb Q hR hE R h o
  subst hm
  rw [exec_Assign_Name_used _ _ _ _ (hsw env hE.sc)]
  refine wpAny_bind (wpAny_standAt (wpAny_bind ?_))
  show wpAny _ A (do let _ ← comprehension (.ListComp elt (⟨target, iter, ifs, 0⟩ :: rest) scope pos) scope env _ (newList []) false (eval iter env) (some (assign (.Name y py) env))) _ _ s
  refine wpAny_bind (wpAny_mono (Q := fun _ s' => Q .next s') (comp_core cs hL hit ht hi ha hR hE R h fun D C ρ' H' s' acc' items' p' R' hvD hvC hne hD hacc hk hC => ?_) (fun _ s' hq => wpAny_pure (wpAny_pure hq)) fun _ _ e => e)
  obtain ⟨mm, hmm⟩ := hC
  have R₂ := R'.take (o := .list acc'.reverse) hvD ⟨items', hD, hacc.mono (List.prefix_append _ _)⟩
  rw [revL_eq, List.append_nil] at hk
  have hvC₂ : PV [C] φ h₀ (ρ' ++ [D]) := fun a ha => ⟨fun hm => by
    rcases List.mem_append.mp hm with hm | hm
    · exact (hvC a ha).1 hm
    · simp at hm ha; exact hne (hm.symm.trans ha), (hvC a ha).2⟩
  have hk : (fun v h => kn (setV v l i) h) (.ref H'.n) ⟨H'.t.put (.list acc'.reverse) H'.n, H'.n.succ⟩ = true := hk
  have hk : kn (setV (.ref H'.n) l i) ⟨H'.t.put (.list acc'.reverse) H'.n, H'.n.succ⟩ = true := hk
  rw [setV_eq] at hk
  obtain ⟨oo, es, ep, eC, rr⟩ := hmm
  show wpAny _ A (assign (.Name y py) env (.ref D)) _ _ _
  refine wpAny_assign_Name (store_slot hE (R₂.guard hvC₂) hx hf (newRef R'.h.len) fun s'' R₃ => ?_)
  obtain ⟨a, b, c⟩ := guard_back R₂.h hvC₂ (by intro x hx; rw [List.mem_singleton] at hx; subst hx; exact ⟨_, eC⟩) R₃
  refine ⟨mm, ⟨oo, es, ep, c C (by simp) _ eC, rr⟩, fun h' hs' => ?_⟩
  exact o.nxt (ρ' ++ [D]) _ _ _ (p'.trans (List.prefix_append _ _)) (a.priv b fun b o hb e => hs'.extBut b o (fun q => hb (by simp [q])) e) hk
end
end Mine
namespace Mine
open PySem PySem.W PyProof.Rows

section
variable {prog : Program} {w : World} {A : Around} {E : Value → Shared → Prop} {s : Shared}
theorem setItem_plain {l : Addr} {items : Array Value} {k : Int} {t : Tok} {v : Value} {Q : Unit → Shared → Prop} (hl : s.heap.PlainList l items)
    (h0 : 0 ≤ k) (hfit : k < 2 ^ 63) (hn : k < items.size)
    (hQ : ∀ h', h'.PlainList l (items.setIfInBounds k.toNat v) → Heap.SameBut l s.heap h' → Q () { s with heap := h' }) :
    wpAny (model prog w) A (setItem (.ref l) (.int k t) v) Q E s := by
  obtain ⟨nn, ho⟩ := hl
  have hT : s.TypeIs (.ref l) "list" := ⟨_, ho, rfl⟩
  unfold setItem
  try with_reducible refine wpAny_holding ?_
  first | refine wpAny_bind (wpAny_pure ?_) | skip
  refine wpAny_bind (wpAny_sequenceKey hT (by decide) ?_)
  refine wpAny_bind (wpAny_callSpecial?_slot (name := Str.ofString "__setitem__") hT slot_list_setitem
    (wpAny_call_entry slot_list_setitem hT entry_list_setitem ?_ (args_list_setitem _ _ _)))
  show wpAny _ _ (Builtin.List.listSubscript? (.int k t) >>= _) _ _ s
  refine wpAny_bind (wpAny_listSubscript_int (fitsIndex_of h0 hfit) ?_)
  clear hfit
  obtain ⟨j, rfl⟩ := Int.eq_ofNat_of_zero_le h0
  have hj : j < items.size := by omega
  have hx' : items[j]? = some items[j] := Array.getElem?_eq_getElem hj
  show wpAny _ _ ((seqItemAt l j >>= fun r => pure (r.map (j, ·))) >>= _) _ _ s
  refine wpAny_bind (wpAny_bind (wpAny_seqItemAt ho rfl (wpAny_pure ?_)))
  rw [hx']
  show wpAny _ _ (setSeqItemAt l j v >>= _) _ _ s
  have hfin : (s.heap.update l (Obj.mapSeq (·.setIfInBounds j v))).PlainList l (items.setIfInBounds j v) := by
    exact ⟨_, IsL.update (n := nn) ho _⟩
  refine wpAny_bind (wpAny_setSeqItemAt ho rfl ?_)
  first
    | exact wpAny_bind (wpAny_pure (wpAny_pure ⟨.none, rfl, wpAny_pure (hQ _ hfin (Heap.SameBut.update ..))⟩))
    | exact wpAny_pure ⟨.none, rfl, wpAny_pure (hQ _ hfin (Heap.SameBut.update ..))⟩

variable {K : Type} [DecidableEq K] {knd : PySem.KeyKind prog w K}
theorem dictSet_new {d : Addr} {kvs : List (K × Value)} {ep : Nat} {k : K} {key v : Value} {Q : Unit → Shared → Prop} (hkey : knd.is k key = true) (hm : s.heap.DictAt knd d kvs ep) (hnew : k ∉ kvs.map (·.1))
    (hQ : ∀ h', h'.DictAt knd d (kvs ++ [(k, v)]) (ep + 1) → Heap.SameBut d s.heap h' → Q () { s with heap := h', toks := s.toks + 1 })
    (hsz : kvs.length ≤ sizeLine) :
    wpAny (model prog w) A (dictSet d key v) Q E s := by
  obtain ⟨o, es, ho, hc, hd, hk, hp, hn⟩ := hm
  have hes : es.size ≤ sizeLine := by have e1 := hp.length; have e2 : es.toList.length = es.size := by simp
                                      omega
  unfold dictSet
  try with_reducible refine wpAny_holding ?_
  refine wpAny_bind (knd.pyHash hkey ?_)
  unfold dictSetHashed
  try with_reducible refine wpAny_holding ?_
  refine wpAny_bind (wpAny_dictFind_of (s := { s with toks := s.toks + 1 }) hkey ho hd hk ?_)
  have hidx : (es.findIdx? fun e => knd.is k e.key) = kvs.findIdx? fun kv => decide (kv.1 = k) := by
    rw [← hp.findIdx k]; obtain ⟨l⟩ := es; simp
  cases hi : es.findIdx? fun e => knd.is k e.key with
  | some i =>
    have := any_of_findIdx_some (hidx ▸ hi)
    rw [List.any_eq_true] at this
    obtain ⟨kv, hkv, he⟩ := this
    exact absurd (List.mem_map.mpr ⟨kv, hkv, of_decide_eq_true he⟩) hnew
  | none =>
    refine wpAny_bind (wpAny_rule (wpAny_updateDictKeys (hz := hes) (s := { s with toks := s.toks + 1 }) ho hd (hQ _ ⟨_, _, Heap.get?_update_self _ ho (Obj.isFreed_of_dict (Obj.data_mapDictKeys hd _)),
      hc.mapDictKeys _, Obj.data_mapDictKeys hd _, hk.push hkey _, ?_, ?_⟩ (Heap.SameBut.update ..))))
    · have := hp.append hkey (knd.hash k) v
      obtain ⟨l⟩ := es
      simpa using this
    · rw [List.map_append, List.nodup_append]
      refine ⟨hn, by simp, ?_⟩
      intro a ha b hb
      simp only [List.map_cons, List.map_nil, List.mem_singleton] at hb
      subst hb
      exact fun e => hnew (e ▸ ha)
theorem setItem_new {d : Addr} {kvs : List (K × Value)} {ep : Nat} {k : K} {key v : Value} {Q : Unit → Shared → Prop} (hkey : knd.is k key = true) (hm : s.heap.DictAt knd d kvs ep) (hnew : k ∉ kvs.map (·.1))
    (hQ : ∀ h', h'.DictAt knd d (kvs ++ [(k, v)]) (ep + 1) → Heap.SameBut d s.heap h' → Q () { s with heap := h', toks := s.toks + 1 })
    (hsz : kvs.length ≤ sizeLine) :
    wpAny (model prog w) A (setItem (.ref d) key v) Q E s := by
  have hT := hm.dictOf.typeIs (s := s)
  unfold setItem
  try with_reducible refine wpAny_holding ?_
  refine wpAny_bind (wpAny_sequenceKey hT (by decide) ?_)
  refine wpAny_bind (wpAny_callSpecial?_slot (name := Str.ofString "__setitem__") hT slot_dict_setitem
    (wpAny_call_entry slot_dict_setitem hT entry_dict_setitem ?_ (args_dict_setitem _ _ _)))
  show wpAny _ _ (Builtin.Dict.notOrdered "__setitem__" ⟨[.ref d, key, v], []⟩ >>= _) _ _ s
  refine wpAny_bind (wpAny_notOrdered_dict hT ?_)
  show wpAny _ _ (dictSet d key v >>= _) _ _ s
  exact wpAny_bind (dictSet_new (hsz := hsz) hkey hm hnew fun h' hm' hs' => wpAny_pure ⟨.none, rfl, wpAny_pure (hQ h' hm' hs')⟩)
end

section
variable {W : Wd} {n : Nat} {Γ : Sc}

theorem setAtL {α : Type} (v : α) (l : List α) (i : Nat) : (l.toArray.setIfInBounds i v) = (l.set i v).toArray := by simp
theorem VRs.set {ρ : List Addr} : ∀ {xs : List V} {vs : List Value} {i : Nat} {x : V} {v : Value}, VRs ρ xs vs → VR ρ x v → VRs ρ (xs.set i x) (vs.set i v)
  | [], [], _, _, _, _, _ => trivial
  | _ :: _, _ :: _, 0, _, _, ⟨_, b⟩, r => ⟨r, b⟩
  | _ :: _, _ :: _, i + 1, _, _, ⟨a, b⟩, r => ⟨a, VRs.set b r⟩
  | [], _ :: _, _, _, _, q, _ => q.elim
  | _ :: _, [], _, _, _, q, _ => q.elim
/-- the store into a list's place -/
theorem op_setL {A : Around} {E : Value → Shared → Prop} {s : Shared} {h₀ : Heap} {ρ : List Addr} {φ : List Loc} {l : List V} {H : Hp} {k : Hp → Bool} {Q : Unit → Shared → Prop} {d i v : Value} {x y z : V}
    (R : SR W φ h₀ ρ l H s) (rx : VR ρ x d) (ry : VR ρ y i) (rz : VR ρ z v) (h : oSetL x y z H k = true) (hQ : ∀ H' s', SR W φ h₀ ρ l H' s' → k H' = true → Q () s') : wpAny (model W.prog W.w) A (setItem d i v) Q E s := by
  obtain ⟨j, vs, rfl, e, h1⟩ := asList_of h
  obtain ⟨m, rfl, h2⟩ := asNat_of h1
  obtain ⟨adr, items, rfl, ha, hp, hv⟩ := R.h.listAt e rx
  obtain ⟨t, rfl⟩ := ry
  rcases rec_tt h2 with ⟨q, h3⟩ | ⟨_, h3⟩
  · obtain ⟨hc, h3⟩ := chk_of h3
    have q := PySem.W.Z.blt_iff.mp q
    have hc := PySem.W.Z.blt_iff.mp hc
    rw [lenL_eq] at q
    have hl := hv.len
    refine setItem_plain hp (by omega) (by omega) (by rw [List.size_toArray]; omega) fun h' hp' hs' => ?_
    have h4 : k ⟨H.t.put (.list (vs.set m z)) j, H.n⟩ = true := by
      have h3 : k ⟨H.t.put (.list (setAt z vs m)) j, H.n⟩ = true := h3
      rw [setAt_eq] at h3; exact h3
    refine hQ _ _ (R.upd (o := .list (vs.set m z)) ha hs'.extBut ⟨items.set m v, ?_, hv.set rz⟩) h4
    have e1 : ((m : Int)).toNat = m := by simp
    rw [e1, setAtL] at hp'
    exact hp'
  · cases h3
theorem Ref1.setL {e d i : PySem.Expr} {F G J : C} {p pos : Pos} (he : Ref W n Γ e F) (hd : Ref W n Γ d G) (hi : Ref W n Γ i J) (hs : ∀ env : Env, swapsWith e (some (.Subscript d i p)) pos.line env = pure false := by intro _; rfl) :
    Ref1 W n Γ (.Assign [.Subscript d i p] e pos) (sSetL F G J) := by
  intro A E s h₀ ρ φ env l H kn kr kb Q hR hE R h o
  refine wpAny_Assign_Subscript (he A E s h₀ ρ φ env l H _ _ hR hE R h fun v x ρ₁ H₁ s₁ p₁ R₁ r₁ h₁ => ?_) (hs env)
  refine hd A E s₁ h₀ ρ₁ φ env l H₁ _ _ hR hE R₁ h₁ fun dv y ρ₂ H₂ s₂ p₂ R₂ r₂ h₂ => ?_
  refine hi A E s₂ h₀ ρ₂ φ env l H₂ _ _ hR hE R₂ h₂ fun iv z ρ₃ H₃ s₃ p₃ R₃ r₃ h₃ => ?_
  exact op_setL R₃ (r₂.mono p₃) r₃ (r₁.mono (p₂.trans p₃)) h₃ fun H' s' R' hk => o.nxt ρ₃ l H' s' (p₁.trans (p₂.trans p₃)) R' hk
theorem getItem_listI {A : Around} {E : Value → Shared → Prop} {s : Shared} {h₀ : Heap} {ρ : List Addr} {φ : List Loc} {l : List V} {H : Hp} {k : K} {Q : Value → Shared → Prop} {d i : Value} {x y : V}
    (R : SR W φ h₀ ρ l H s) (rx : VR ρ x d) (ry : VR ρ y i) (h : oItemL x y H k = true) (hQ : ∀ v z, VR ρ z v → k z H = true → Q v s) : wpAny (model W.prog W.w) A (getItem d i) Q E s := by
  obtain ⟨j, vs, rfl, e, h1⟩ := asList_of h
  obtain ⟨m, rfl, h2⟩ := asNat_of h1
  obtain ⟨hc, h3⟩ := chk_of h2
  have hi := PySem.W.Z.blt_iff.mp hc
  rw [nthO_eq] at h3
  obtain ⟨t, rfl⟩ := ry
  obtain ⟨adr, items, rfl, ha, hp, hv⟩ := R.h.listAt e rx
  cases q : vs[m]? with
  | none => rw [q] at h3; exact absurd h3 Bool.false_ne_true
  | some z =>
    rw [q] at h3
    obtain ⟨v, hv1, hv2⟩ := hv.get q
    exact wpAny_getItem_list (PlainList.isList hp) (by omega) (by omega) (by simpa using hv1) (hQ v z hv2 h3)
theorem Ref1.augL {e d i : PySem.Expr} {F G J : C} {p pos : Pos} (hd : Ref W n Γ d G) (hi : Ref W n Γ i J) (he : Ref W n Γ e F)
    (hs : ∀ ov iv new, augStore i ov iv new = (do holding [new, ov, iv] (setItem ov iv new); release [new, ov, iv] []; pure .next) := by intros; rfl) :
    Ref1 W n Γ (.AugAssign (.Subscript d i p) .Add e pos) (sAugL G J F) := by
  intro A E s h₀ ρ φ env l H kn kr kb Q hR hE R h o
  refine wpAny_AugAssign_SubscriptAny (hd A E s h₀ ρ φ env l H _ _ hR hE R h fun dv x ρ₁ H₁ s₁ p₁ R₁ r₁ h₁ => ?_) hs
  refine hi A E s₁ h₀ ρ₁ φ env l H₁ _ _ hR hE R₁ h₁ fun iv y ρ₂ H₂ s₂ p₂ R₂ r₂ h₂ => ?_
  refine getItem_listI R₂ (r₁.mono p₂) r₂ h₂ fun ov z rz h₃ => ?_
  refine he A E s₂ h₀ ρ₂ φ env l H₂ _ _ hR hE R₂ h₃ fun v u ρ₃ H₃ s₃ p₃ R₃ r₃ h₄ => ?_
  refine op_iaddI (n := n) A E s₃ h₀ ρ₃ φ l H₃ _ _ ov v z u hR R₃ (rz.mono p₃) r₃ h₄ fun w q ρ₄ H₄ s₄ p₄ R₄ r₄ h₅ => ?_
  exact op_setL R₄ (r₁.mono (p₂.trans (p₃.trans p₄))) (r₂.mono (p₃.trans p₄)) r₄ h₅ fun H' s' R' hk => o.nxt ρ₄ l H' s' (p₁.trans (p₂.trans (p₃.trans p₄))) R' hk

theorem KRs.snoc {ρ : List Addr} : ∀ {xs : List (Tx × V)} {vs : List (Str × Value)} {k : Tx} {x : V} {v : Value}, KRs ρ xs vs → VR ρ x v → KRs ρ (xs ++ [(k, x)]) (vs ++ [(toStr k, v)])
  | [], [], _, _, _, _, r => ⟨rfl, r, trivial⟩
  | _ :: _, _ :: _, _, _, _, ⟨a, b, c⟩, r => ⟨a, b, KRs.snoc c r⟩
  | [], _ :: _, _, _, _, q, _ => q.elim
  | _ :: _, [], _, _, _, q, _ => q.elim
theorem valueAt_none {kvs : List (Str × Value)} {k : Str} (h : valueAt kvs k = none) : k ∉ kvs.map (·.1) := by
  intro hm
  obtain ⟨kv, h1, h2⟩ := List.mem_map.mp hm
  unfold valueAt at h
  have hf : (kvs.find? fun kv => decide (kv.1 = k)).isSome = true := by
    rw [List.find?_isSome]; exact ⟨kv, h1, by simpa using h2⟩
  cases q : kvs.find? fun kv => decide (kv.1 = k) with
  | none => rw [q] at hf; cases hf
  | some y => rw [q] at h; cases h
theorem Ref1.setD {e d i : PySem.Expr} {F G J : C} {p pos : Pos} (he : Ref W n Γ e F) (hd : Ref W n Γ d G) (hi : Ref W n Γ i J) (hs : ∀ env : Env, swapsWith e (some (.Subscript d i p)) pos.line env = pure false := by intro _; rfl) :
    Ref1 W n Γ (.Assign [.Subscript d i p] e pos) (sSetD F G J) := by
  intro A E s h₀ ρ φ env l H kn kr kb Q hR hE R h o
  refine wpAny_Assign_Subscript (he A E s h₀ ρ φ env l H _ _ hR hE R h fun v x ρ₁ H₁ s₁ p₁ R₁ r₁ h₁ => ?_) (hs env)
  refine hd A E s₁ h₀ ρ₁ φ env l H₁ _ _ hR hE R₁ h₁ fun dv y ρ₂ H₂ s₂ p₂ R₂ r₂ h₂ => ?_
  refine hi A E s₂ h₀ ρ₂ φ env l H₂ _ _ hR hE R₂ h₂ fun iv z ρ₃ H₃ s₃ p₃ R₃ r₃ h₃ => ?_
  have r₂' := r₂.mono p₃
  obtain ⟨j, ep, es, rfl, eD, h4⟩ := asDictE_of h₃
  obtain ⟨t, rfl, h5⟩ := asStr_of h4
  obtain ⟨hc, h6⟩ := chk_of h5
  have hz := PySem.W.Z.ble_iff.mp hc
  rw [lenL_eq] at hz
  obtain ⟨tt, rfl⟩ := r₃
  obtain ⟨adr, kvs, rfl, ha, hp, hv⟩ := R₃.h.dictAt eD r₂'
  cases q : findT t es with
  | some _ => rw [q] at h6; exact absurd h6 Bool.false_ne_true
  | none =>
    rw [q] at h6
    have hl := hv.len
    refine setItem_new (strKind_is W.prog W.w _ tt) hp (valueAt_none (findT_none hv q)) (fun h' hp' hs' => ?_) (by rw [sizeLine_eq]; omega)
    have h7 : kn l ⟨H₃.t.put (.dict (ep + 1) (es ++ [(t, x)])) j, H₃.n⟩ = true := by
      have h6 : kn l ⟨H₃.t.put (.dict (ep + 1) (appL es [(t, x)])) j, H₃.n⟩ = true := h6
      rw [appL_eq] at h6; exact h6
    exact o.nxt ρ₃ l _ _ (p₁.trans (p₂.trans p₃)) (SR.tok (R₃.upd (s' := { s₃ with heap := h' }) (o := .dict (ep + 1) (es ++ [(t, x)])) ha hs'.extBut ⟨R₃.h.notMods eD ha, _, hp', hv.snoc (r₁.mono (p₂.trans p₃))⟩) _) h7

/-- a try whose body raises nothing -/
theorem Ref1.try {body : List Stmt} {hd : ExceptHandler} {hds : List ExceptHandler} {b : S} {pos : Pos} (hb : RefS W n Γ body b) : Ref1 W n Γ (.Try body (hd :: hds) [] [] pos) b := by
  intro A E s h₀ ρ φ env l H kn kr kb Q hR hE R h o
  refine wpAny_Try_except (hb A _ s h₀ ρ φ env l H kn kr kb _ hR hE R h ⟨fun ρ' l' H' s' p R' h' => wpAny_execs_nil (o.nxt ρ' l' H' s' p R' h'), fun v x ρ' l' H' s' p R' r h' => o.ret v x ρ' l' H' s' p R' r h', fun ρ' l' H' s' p R' h' => o.brk ρ' l' H' s' p R' h'⟩)
end
end Mine
namespace Mine
open PySem PySem.W PyProof.Rows
section
variable {W : Wd} {n : Nat} {Γ : Sc}

theorem op_lenL : Op1 W n oLenL (fun v => call (.builtin "len") [v]) := by
  intro A E s h₀ ρ φ l H k Q a x hR R ra h hP
  obtain ⟨j, vs, rfl, e, h1⟩ := asList_of h
  obtain ⟨hc, h2⟩ := chk_of h1
  have hz := PySem.W.Z.blt_iff.mp hc
  rw [lenL_eq] at hz h2
  obtain ⟨adr, items, rfl, ha, hp, hv⟩ := R.h.listAt e ra
  have hl := hv.len
  refine Calls.call_len_list (PlainList.isList hp) (by rw [List.size_toArray]; omega) ?_
  exact hP.here (x := .int (Int.ofNat vs.length)) ((R.tok _).tok _) ⟨_, by rw [List.size_toArray, ← hl]; rfl⟩ h2
theorem op_lenS : Op1 W n oLenS (fun v => call (.builtin "len") [v]) := by
  intro A E s h₀ ρ φ l H k Q a x hR R ra h hP
  obtain ⟨vs, rfl, h1⟩ := asStr_of h
  obtain ⟨hc, h2⟩ := chk_of h1
  have hz := PySem.W.Z.blt_iff.mp hc
  rw [lenL_eq] at hz h2
  obtain ⟨t, rfl⟩ := ra
  refine PySem.P.len_str (by rw [toStr_len]; omega) ?_
  exact hP.here (x := .int (Int.ofNat vs.length)) ((R.tok _).tok _) ⟨_, by rw [toStr_len]; rfl⟩ h2
theorem op_lenD : Op1 W n oLenD (fun v => call (.builtin "len") [v]) := by
  intro A E s h₀ ρ φ l H k Q a x hR R ra h hP
  obtain ⟨j, ep, es, rfl, e, h1⟩ := asDict_of h
  obtain ⟨hc, h2⟩ := chk_of h1
  have hz := PySem.W.Z.blt_iff.mp hc
  rw [lenL_eq] at hz h2
  obtain ⟨adr, kvs, rfl, ha, hd, hv⟩ := R.h.dictAt e ra
  have hl := hv.len
  refine call_len_dict (knd := PySem.strKind W.prog W.w) (R.h.notMods e ha) hd.dictOf (by omega) ?_
  exact hP.here (x := .int (Int.ofNat es.length)) ((R.tok _).tok _) ⟨_, by rw [← hl]; rfl⟩ h2

-- sum
theorem sumI_of : ∀ {vs : List V} {k : Nat → Bool}, sumI vs k = true → ∃ is : List Nat, vs = is.map (fun i => V.int (Int.ofNat i)) ∧ (∀ i ∈ is, i < 1048576) ∧ k is.sum = true
  | [], k, h => ⟨[], rfl, by simp, h⟩
  | x :: vs, k, h => by
    have h' : asNat x (fun i => chk (Nat.blt i 1048576) (sumI vs fun j => k (i + j))) = true := h
    obtain ⟨i, rfl, h1⟩ := asNat_of h'
    obtain ⟨hc, h2⟩ := chk_of h1
    obtain ⟨is, rfl, hb, h3⟩ := sumI_of h2
    refine ⟨i :: is, rfl, fun j hj => ?_, by rw [List.sum_cons]; exact h3⟩
    rcases List.mem_cons.mp hj with rfl | hj
    · exact PySem.W.Z.blt_iff.mp hc
    · exact hb j hj
theorem preSum_nat (is : List Nat) (j : Nat) (hj : j ≤ is.length) : preSum (fun i => ((is[i]?.getD 0 : Nat) : Int)) j = ((is.take j).sum : Nat) := by
  induction j with
  | zero => rfl
  | succ j ih =>
    show preSum _ j + _ = _
    rw [ih (by omega), List.take_add_one]
    have : is[j]? = some is[j] := List.getElem?_eq_getElem (by omega)
    have e2 : is[j]?.getD 0 = is[j] := by rw [this]; rfl
    show ((is.take j).sum : Int) + ((is[j]?.getD 0 : Nat) : Int) = _
    rw [e2, this]
    simp only [Option.toList_some, List.sum_append, List.sum_cons, List.sum_nil]
    omega
theorem sum_bound : ∀ {is : List Nat}, (∀ i ∈ is, i < 1048576) → is.sum ≤ is.length * 1048576
  | [], _ => by simp
  | i :: is, h => by
    have h1 := h i List.mem_cons_self
    have h2 := sum_bound (is := is) fun j hj => h j (List.mem_cons_of_mem _ hj)
    simp only [List.sum_cons, List.length_cons]
    omega
theorem op_sum : Op1 W n oSum (fun v => call (.builtin "sum") [v]) := by
  intro A E s h₀ ρ φ l H k Q a x hR R ra h hP
  obtain ⟨j, vs, rfl, e, h1⟩ := asList_of h
  obtain ⟨hc, h2⟩ := chk_of h1
  have hz := PySem.W.Z.ble_iff.mp hc
  rw [lenL_eq] at hz
  obtain ⟨is, rfl, hb, h3⟩ := sumI_of h2
  obtain ⟨adr, items, rfl, ha, hp, hv⟩ := R.h.listAt e ra
  have hl := hv.len
  rw [List.length_map] at hl hz
  have hlt : @LT.lt Nat _ adr s.heap.objs.size := let ⟨_, e⟩ := R.h.live adr (List.mem_of_getElem? ha); Heap.lt_size e
  refine call_sum_walk (wpAny_pyIter_list (PlainList.isList hp) ?_)
  have hne : adr ≠ s.heap.objs.size := Nat.ne_of_lt hlt
  refine ⟨_, _, _, _, _, _, fun i => ((is[i]?.getD 0 : Nat) : Int), rfl, Walks.list (by exact hR.hd) _ adr hne items.toArray, ⟨⟨_, Heap.get?_push_size _ rfl, rfl, rfl⟩, (PlainList.isList hp).push _⟩, ?_, ?_, ?_, ?_⟩
  · intro b hb
    simp only [List.mem_cons, List.not_mem_nil, or_false] at hb
    rw [Heap.size_push]
    rcases hb with rfl | rfl
    · exact Nat.lt_succ_self _
    · exact Nat.lt_succ_of_lt hlt
  · intro i v hi
    have hi : items[i]? = some v := by simpa using hi
    have hlt : i < items.length := (List.getElem?_eq_some_iff.mp hi).1
    have h1 : (is.map fun i => V.int (Int.ofNat i))[i]? = some (V.int (Int.ofNat (is[i]?.getD 0))) := by
      rw [List.getElem?_map, List.getElem?_eq_getElem (by omega)]; rfl
    obtain ⟨v', hv1, t, hv2⟩ := hv.get h1
    rw [hi] at hv1
    cases hv1
    exact ⟨t, hv2⟩
  · intro i hi
    rw [List.size_toArray] at hi
    have h2 : is[i]?.getD 0 < 1048576 := by
      rw [List.getElem?_eq_getElem (by omega)]
      exact hb _ (List.getElem_mem _)
    rw [preSum_nat is (i + 1) (by omega)]
    have h3 : (is.take (i + 1)).sum ≤ (is.take (i + 1)).length * 1048576 := sum_bound fun j hj => hb j (List.mem_of_mem_take hj)
    rw [List.length_take] at h3
    have h4 : min (i + 1) is.length ≤ 4096 := by omega
    generalize (is.take (i + 1)).sum = g at h3 ⊢
    show InLong ((is[i]?.getD 0 : Nat) : Int) ∧ InLong ((g : Nat) : Int)
    generalize is[i]?.getD 0 = d at h2 ⊢
    unfold InLong
    generalize min (i + 1) is.length = mm at h3 h4
    constructor
    · constructor <;> omega
    · constructor <;> omega
  · intro h' tk t' hk
    have h4 := hP.here (x := .int (Int.ofNat is.sum)) (v := .int (preSum (fun i => ((is[i]?.getD 0 : Nat) : Int)) items.toArray.size) t') (s := { s with heap := h', toks := tk })
      (R.ext fun b o e => hk b o (fun hm => by
        rw [List.mem_singleton] at hm
        have := Heap.lt_size e
        rw [hm] at this
        exact Nat.lt_irrefl _ this) (Heap.get?_push_of_some _ e)) ⟨t', by rw [List.size_toArray, ← hl, preSum_nat is _ (Nat.le_refl _), List.take_length]; rfl⟩ h3
    exact h4

-- int of four figures
theorem fig_of {x : Nat} {k : Nat → Bool} (h : fig x k = true) : ∃ a : Fin 4, x = 48 + a.val ∧ k a.val = true := by
  obtain ⟨h1, h⟩ := chk_of h
  obtain ⟨h2, h⟩ := chk_of h
  have h1 := PySem.W.Z.ble_iff.mp h1
  have h2 := PySem.W.Z.blt_iff.mp h2
  exact ⟨⟨x - 48, by omega⟩, by show x = 48 + (x - 48); omega, h⟩
theorem figs : ∀ a b c d : Fin 4, PySem.intText? (toStr [48 + a.val, 48 + b.val, 48 + c.val, 48 + d.val]) = some (Int.ofNat (1000 * a.val + 100 * b.val + 10 * c.val + d.val)) := by decide +kernel
theorem op_int : Op1 W n oInt (fun v => call (.type "int") [v]) := by
  intro A E s h₀ ρ φ l H k Q a x hR R ra h hP
  obtain ⟨t, rfl, h1⟩ := asStr_of h
  obtain ⟨u, rfl⟩ := ra
  match t, h1 with
  | [a, b, c, d], h1 =>
    obtain ⟨a', ea, h2⟩ := fig_of h1
    obtain ⟨b', eb, h3⟩ := fig_of h2
    obtain ⟨c', ec, h4⟩ := fig_of h3
    obtain ⟨d', ed, h5⟩ := fig_of h4
    clear h h1 h2 h3 h4
    subst ea eb ec ed
    exact PySem.W.KIN.call_text (figs a' b' c' d') (by rw [toStr_len]; show 4 ≤ 640; decide) (hP.here (x := .int _) (R.tok _) ⟨_, rfl⟩ h5)
  | [], h1 => exact absurd h1 Bool.false_ne_true
  | [_], h1 => exact absurd h1 Bool.false_ne_true
  | [_, _], h1 => exact absurd h1 Bool.false_ne_true
  | [_, _, _], h1 => exact absurd h1 Bool.false_ne_true
  | _ :: _ :: _ :: _ :: _ :: _, h1 => exact absurd h1 Bool.false_ne_true

-- min and max
theorem two_cmp {x : Str} {c d : Nat} {op : CmpOp} {A : Around} (hx : x = toStr [c, d]) (bt : Nat → Nat → Bool)
    (hop : ∀ (a b : Nat) (t u : Tok) (s : Shared) (Q : Value → Shared → Prop) (E : Value → Shared → Prop), Q (.bool (bt a b)) s → wpAny (model W.prog W.w) A (compareOp op (.str ⟨#[a]⟩ t) (.str ⟨#[b]⟩ u)) Q E s) (hrc : ∀ a b : Value, compareOp op a b = richCompare op a b) :
    CmpOf W.prog W.w A op (SignAt x) (fun i j => bt (([c, d][i]?).getD 0) (([c, d][j]?).getD 0)) := by
  subst hx
  intro i j vi vj s Q E hi hj h
  obtain ⟨a, t, ha, rfl⟩ := hi
  obtain ⟨b, u, hb, rfl⟩ := hj
  have ha : [c, d][i]? = some a := by simpa [toStr] using ha
  have hb : [c, d][j]? = some b := by simpa [toStr] using hb
  rw [← hrc]
  have h : Q (.bool (bt (([c, d][i]?).getD 0) (([c, d][j]?).getD 0))) s := h
  rw [ha, hb] at h
  exact hop a b t u s Q E h
theorem ltOne (a b : Nat) : decide ((⟨#[a]⟩ : Str).cps.toList < (⟨#[b]⟩ : Str).cps.toList) = Nat.blt a b := by
  cases q : Nat.blt a b with
  | true => exact decide_eq_true (List.Lex.rel (PySem.W.Z.blt_iff.mp q))
  | false =>
    refine decide_eq_false fun h => ?_
    have hn : ¬ a < b := fun h => by rw [PySem.W.Z.blt_iff.mpr h] at q; cases q
    cases h with
    | rel h => exact hn h
    | cons h => cases h
theorem strIt {A : Around} {E : Value → Shared → Prop} {s : Shared} {φ : List Loc} {h₀ : Heap} {ρ : List Addr} {l : List V} {H : Hp} {c d : Nat} {t : Tok} {Q : Value → Shared → Prop} (R : SR W φ h₀ ρ l H s) (hc : c < 128) (hd : d < 128)
    (hQ : ∀ I s₂, s₂.heap.IsStrIter I "str_ascii_iterator" (toStr [c, d]) t 0 → @LT.lt Nat _ I s₂.heap.objs.size → (∀ h' tk, (∀ b o, b ∉ [I] → s₂.heap.get? b = some o → h'.get? b = some o) → SR W φ h₀ ρ l H { s₂ with heap := h', toks := tk }) → Q (.ref I) s₂) : wpAny (model W.prog W.w) A (pyIter (.str (toStr [c, d]) t)) Q E s := by
  refine wpAny_pyIter_ascii (by simp [hc, hd]) ?_
  refine hQ _ _ ⟨_, Heap.get?_push_size _ rfl, rfl, rfl⟩ (by rw [Heap.size_push]; exact Nat.lt_succ_self _) fun h' tk hk => ?_
  exact R.ext (s' := { s with heap := h', toks := tk }) fun b o e => hk b o (fun hm => by
    rw [List.mem_singleton] at hm
    have := Heap.lt_size e
    rw [hm] at this
    exact Nat.lt_irrefl _ this) (Heap.get?_push_of_some _ e)
theorem op_minS : Op1 W n oMinS (fun v => call (.builtin "min") [v]) := by
  intro A E s h₀ ρ φ l H k Q a x hR R ra h hP
  obtain ⟨w, rfl, h1⟩ := asStr_of h
  obtain ⟨u, rfl⟩ := ra
  match w, h1 with
  | [c, d], h1 =>
    obtain ⟨hc, h1⟩ := chk_of h1
    obtain ⟨hd, h1⟩ := chk_of h1
    refine call_min_walk (strIt R (PySem.W.Z.blt_iff.mp hc) (PySem.W.Z.blt_iff.mp hd) fun I s₂ hI hlt hk => ?_)
    refine ⟨I, _, _, _, _, _, _, rfl, Walks.strAscii (by exact hR.hd) I (toStr [c, d]) u, hI, by simpa using hlt, by show 0 < 2; decide, two_cmp (op := .Lt) rfl Nat.blt (fun a b t u s Q E h => PySem.P.lt_str (by rw [ltOne]; exact h)) (fun _ _ => rfl), fun v h' tk hv hk' => ?_⟩
    obtain ⟨e, t', he, rfl⟩ := hv
    refine hP.here (x := .str [@Bool.rec (fun _ => Nat) c d (Nat.blt d c)]) (hk h' tk hk') ⟨t', ?_⟩ h1
    have he' : [c, d][if Nat.blt d c = true then 1 else 0]? = some e := by simpa [toStr, argBest] using he
    cases q : Nat.blt d c <;> rw [q] at he' <;> simp at he' <;> subst he' <;> rfl
  | [], h1 => exact absurd h1 Bool.false_ne_true
  | [_], h1 => exact absurd h1 Bool.false_ne_true
  | _ :: _ :: _ :: _, h1 => exact absurd h1 Bool.false_ne_true
theorem op_maxS : Op1 W n oMaxS (fun v => call (.builtin "max") [v]) := by
  intro A E s h₀ ρ φ l H k Q a x hR R ra h hP
  obtain ⟨w, rfl, h1⟩ := asStr_of h
  obtain ⟨u, rfl⟩ := ra
  match w, h1 with
  | [c, d], h1 =>
    obtain ⟨hc, h1⟩ := chk_of h1
    obtain ⟨hd, h1⟩ := chk_of h1
    refine call_max_walk (strIt R (PySem.W.Z.blt_iff.mp hc) (PySem.W.Z.blt_iff.mp hd) fun I s₂ hI hlt hk => ?_)
    refine ⟨I, _, _, _, _, _, _, rfl, Walks.strAscii (by exact hR.hd) I (toStr [c, d]) u, hI, by simpa using hlt, by show 0 < 2; decide, two_cmp (op := .Gt) rfl (fun a b => Nat.blt b a) (fun a b t u s Q E h => PySem.P.gt_str (by rw [ltOne]; exact h)) (fun _ _ => rfl), fun v h' tk hv hk' => ?_⟩
    obtain ⟨e, t', he, rfl⟩ := hv
    refine hP.here (x := .str [@Bool.rec (fun _ => Nat) c d (Nat.blt c d)]) (hk h' tk hk') ⟨t', ?_⟩ h1
    have he' : [c, d][if Nat.blt c d = true then 1 else 0]? = some e := by simpa [toStr, argBest] using he
    cases q : Nat.blt c d <;> rw [q] at he' <;> simp at he' <;> subst he' <;> rfl
  | [], h1 => exact absurd h1 Bool.false_ne_true
  | [_], h1 => exact absurd h1 Bool.false_ne_true
  | _ :: _ :: _ :: _, h1 => exact absurd h1 Bool.false_ne_true

-- isinstance(x, bool)
theorem sub_int_bool' : isSubtype (.type "int") (.type "bool") = pure false := by rw [isSubtype_type]; kernel_rfl
theorem sub_bool_bool' : isSubtype (.type "bool") (.type "bool") = pure true := by rw [isSubtype_type]; kernel_rfl
theorem type_bool' : typeOf (.type "bool") = pure (.type "type") := by kernel_rfl
theorem Ref.isBool {x y : Str} {a : PySem.Expr} {F : C} {p p2 pos : Pos} (b : BiFn Γ x (.builtin "isinstance")) (b2 : BiFn Γ y (.type "bool")) (ha : Ref W n Γ a F) (hs : ∀ (rest : List PySem.Expr) (env : Env), starEach (a :: rest) env = (false, eval a env) :: starEach rest env := by intro _ _; rfl) :
    Ref W n Γ (.Call (.Name x p) [a, .Name y p2] [] pos) (cOp1 oIsBool F) := by
  intro A E s h₀ ρ φ env l H k Q hR hE R h hP
  refine wpAny_Call_NameR (load_bi hE R.h b.kind b.mem b.val b.nn b.nd ?_)
  have e1 : backTo pos (starEach [a, .Name y p2] env) = [(false, eval a env), (false, eval (.Name y p2) env)] := by rw [hs]; rfl
  rw [e1]
  refine Calls.callWith_builtin rfl (Calls.evalArgs_plain (Calls.spliced_cons (ha A E s h₀ ρ φ env l H _ _ hR hE R h fun v z ρ₁ H₁ s₁ p₁ R₁ r₁ h₁ => ?_)))
  refine Calls.spliced_cons (load_bi hE R₁.h b2.kind b2.mem b2.val b2.nn b2.nd (Calls.spliced_nil ?_))
  have hP' := hP.mono p₁
  cases z with
  | bool c =>
    cases r₁
    exact call_isinstance_yes (Tx := "bool") (T := "bool") rfl type_bool' sub_bool_bool' (hP'.here (x := .bool true) R₁ rfl h₁)
  | int i =>
    obtain ⟨t, rfl⟩ := r₁
    exact PySem.call_isinstance (isinstance_false_int (by decide) type_bool' sub_int_bool') (hP'.here (x := .bool false) (R₁.tok _) rfl h₁)
  | _ => exact absurd h₁ Bool.false_ne_true
end
end Mine
namespace Mine
open PySem PySem.W PyProof.Rows
section
variable {W : Wd} {n : Nat} {Γ : Sc}

/-- what makes a method of a builtin type callable by its name -/
structure Meth (T : String) (name : Str) (id : String) : Prop where
  pa : PlainAttrs T
  slot : Slot T name id
  ty : typeOf (.builtin id) = pure (.type "method_descriptor")
/-- the test tells the type -/
def TellsT (W : Wd) (t : V → Hp → Bool) (T : String) : Prop := ∀ (h₀ : Heap) (ρ : List Addr) (H : Hp) (s : Shared) (x : V) (v : Value), HR W h₀ ρ H s → VR ρ x v → t x H = true → s.TypeIs v T ∧ (∀ a, v = .ref a → ∃ ob, s.heap.get? a = some ob ∧ ob.dict = none)
theorem tells_list : TellsT W isListB "list" := fun h₀ ρ H s x v R r h => by
  obtain ⟨j, vs, rfl, e, _⟩ := asList_of h
  obtain ⟨adr, items, rfl, ha, ⟨nn, hp⟩, hv⟩ := R.listAt e r
  exact ⟨⟨_, hp, rfl⟩, fun a e => by cases e; exact ⟨_, hp, rfl⟩⟩
theorem tells_str : TellsT W isStrB "str" := fun h₀ ρ H s x v R r h => by
  obtain ⟨j, rfl, _⟩ := asStr_of h
  obtain ⟨t, rfl⟩ := r
  exact ⟨typeIs_str s _ t, fun a e => nomatch e⟩
theorem Ref.meth {T : String} {name : Str} {id : String} {t : V → Hp → Bool} {o : O2} {e a : PySem.Expr} {F G : C} {apos pos : Pos} (m : Meth T name id) (ht : TellsT W t T) (ho : Op2 W n o (fun a b => call (.builtin id) [a, b])) (he : Ref W n Γ e F) (ha : Ref W n Γ a G)
    (hs : ∀ (rest : List PySem.Expr) (env : Env), starEach (a :: rest) env = (false, eval a env) :: starEach rest env := by intro _ _; rfl)
    (hbase : ∀ env : Env, attributeBase e name env (eval e env) = eval e env := by intro _; rfl) (hline : (apos.endLine == pos.line) = true := by decide +kernel) :
    Ref W n Γ (.Call (.Attribute e name apos) [a] [] pos) (cM t o F G) := by
  intro A E s h₀ ρ φ env l H k Q hR hE R h hP
  have e1 : backTo pos (starEach [a] env) = [(false, eval a env)] := by rw [hs]; rfl
  refine wpAny_Call_method (T := T) (id := id) (hbase env) (by rw [e1]; rfl) hline m.pa m.slot m.ty (he A E s h₀ ρ φ env l H _ _ hR hE R h fun v x ρ₁ H₁ s₁ p₁ R₁ r₁ h₁ => ?_)
  obtain ⟨hc, h₁⟩ := chk_of h₁
  obtain ⟨hT, hd⟩ := ht _ _ _ _ _ _ R₁.h r₁ hc
  refine ⟨hT, hd, ?_⟩
  rw [e1]
  refine Calls.callWith_builtin rfl (Calls.evalArgs_plain (Calls.spliced_cons (ha A E s₁ h₀ ρ₁ φ env l H₁ _ _ hR hE R₁ h₁ fun w y ρ₂ H₂ s₂ p₂ R₂ r₂ h₂ => Calls.spliced_nil ?_)))
  exact ho A E s₂ h₀ ρ₂ φ l H₂ k Q v w x y hR R₂ (r₁.mono p₂) r₂ h₂ (hP.mono (p₁.trans p₂))

theorem meth_pop : Meth "list" "pop" "list.pop" := ⟨PySem.F.plainAttrs_list, PySem.F.slot_list_pop, PySem.F.type_list_pop⟩
theorem meth_append : Meth "list" "append" "list.append" := ⟨PySem.F.plainAttrs_list, slot_list_append, type_list_append⟩
theorem meth_count : Meth "list" "count" "list.count" := ⟨PySem.F.plainAttrs_list, PySem.F.slot_list_count, PySem.F.type_list_count⟩
theorem meth_join : Meth "str" "join" "str.join" := ⟨PySem.F.plainAttrs_str, PySem.F.slot_str_join, PySem.F.type_str_join⟩
theorem meth_split : Meth "str" "split" "str.split" := ⟨PySem.F.plainAttrs_str, PySem.F.slot_str_split, PySem.F.type_str_split⟩

theorem eraseL {items : List Value} {i : Nat} (h : i < items.length) : items.toArray.eraseIdxIfInBounds i = (items.take i ++ items.drop (i + 1)).toArray := by
  rw [Array.eraseIdxIfInBounds, dif_pos (by simpa using h)]
  simp [List.eraseIdx_eq_take_drop_succ]
theorem call_popAt {A : Around} {E : Value → Shared → Prop} {s : Shared} {adr : Addr} {items : List Value} {nn i : Nat} {ii : Int} {t : Tok} {v : Value} {Q : Value → Shared → Prop} (hii : ii = (i : Int)) (hi : i < items.length) (hz : items.length ≤ 4096) (hv : items[i]? = some v)
    (hp : s.heap.get? adr = some { cls := .type "list", dict := none, data := .seq items.toArray nn, slots := #[] }) (hQ : Q v { s with heap := s.heap.update adr (Obj.mapSeq fun xs => xs.eraseIdxIfInBounds i) }) :
    wpAny (model W.prog W.w) A (call (.builtin "list.pop") [.ref adr, .int ii t]) Q E s := by
  have f1 : Builtin.List.listFitsIndex ii = true := fitsIndex_of (by omega) (by omega)
  have f2 : seqIndex? ii items.toArray.size = some i := by rw [hii]; exact seqIndex_nat (by rw [List.size_toArray]; exact hi)
  have f3 : items.toArray[i]? = some v := by simpa using hv
  have f4 : items.toArray.size ≤ sizeLine := by rw [List.size_toArray, sizeLine_eq]; omega
  exact call_meets PySem.F.slot_list_pop ⟨_, hp, rfl⟩ PySem.F.entry_list_pop (PySem.F.args_list_pop_2 _ _) (MeetsSeq.list_pop_at adr items.toArray nn ii t i v f1 f2 f3 f4) ⟨hp, hQ⟩
theorem op_popAt : Op2 W n oPopAt (fun a b => call (.builtin "list.pop") [a, b]) := by
  intro A E s h₀ ρ φ l H k Q a b x y hR R ra rb h hP
  obtain ⟨j, vs, rfl, e, h1⟩ := asList_of h
  obtain ⟨i, rfl, h2⟩ := asNat_of h1
  obtain ⟨hc, h3⟩ := chk_of h2
  have hz := PySem.W.Z.ble_iff.mp hc
  rw [lenL_eq] at hz
  rw [nthO_eq] at h3
  obtain ⟨t, rfl⟩ := rb
  obtain ⟨adr, items, rfl, ha, ⟨nn, hp⟩, hv⟩ := R.h.listAt e ra
  have hl := hv.len
  cases q : vs[i]? with
  | none => rw [q] at h3; exact absurd h3 Bool.false_ne_true
  | some z =>
    rw [q] at h3
    obtain ⟨v, hv1, hv2⟩ := hv.get q
    have hlt : i < items.length := (List.getElem?_eq_some_iff.mp hv1).1
    refine call_popAt rfl hlt (by omega) hv1 hp ?_
    have h4 : k z ⟨H.t.put (.list (vs.take i ++ vs.drop (i + 1))) j, H.n⟩ = true := by
      have h3 : k z ⟨H.t.put (.list (appL (takeL vs i) (dropL vs (i + 1)))) j, H.n⟩ = true := h3
      rw [takeL_eq, dropL_eq, appL_eq] at h3; exact h3
    refine hP.here (R.upd (o := .list (vs.take i ++ vs.drop (i + 1))) (s' := { s with heap := s.heap.update adr (Obj.mapSeq fun xs => xs.eraseIdxIfInBounds i) }) ha (Heap.SameBut.update ..).extBut ⟨items.take i ++ items.drop (i + 1), ?_, (hv.take i).app (hv.drop (i + 1))⟩) hv2 h4
    rw [← eraseL hlt]
    exact ⟨_, IsL.update (n := nn) hp _⟩
theorem op_append : Op2 W n oAppend (fun a b => call (.builtin "list.append") [a, b]) := by
  intro A E s h₀ ρ φ l H k Q a b x y hR R ra rb h hP
  obtain ⟨j, vs, rfl, e, h1⟩ := asList_of h
  obtain ⟨hc, h3⟩ := chk_of h1
  have hz := PySem.W.Z.ble_iff.mp hc
  rw [lenL_eq] at hz
  obtain ⟨adr, items, rfl, ha, hp, hv⟩ := R.h.listAt e ra
  have hl := hv.len
  refine wpAny_list_append_plain hp (fun h' hp' hs' => ?_) (by rw [List.size_toArray, sizeLine_eq]; omega)
  have h4 : k .none ⟨H.t.put (.list (vs ++ [y])) j, H.n⟩ = true := by
    have h3 : k .none ⟨H.t.put (.list (appL vs [y])) j, H.n⟩ = true := h3
    rw [appL_eq] at h3; exact h3
  exact hP.here (x := .none) (R.upd (o := .list (vs ++ [y])) (s' := { s with heap := h' }) ha hs'.extBut ⟨items ++ [b], by simpa using hp', hv.app ⟨rb, trivial⟩⟩) rfl h4

-- count
theorem countI_of : ∀ {vs : List V} {x : Int} {k : Nat → Bool}, countI x vs k = true → ∃ is : List Int, vs = is.map V.int ∧ k (is.countP (· == x)) = true
  | [], x, k, h => ⟨[], rfl, h⟩
  | v :: vs, x, k, h => by
    have h' : asInt v (fun i => countI x vs fun n => k (@Bool.rec (fun _ => Nat) n (Nat.succ n) (eqZ i x))) = true := h
    obtain ⟨i, rfl, h1⟩ := asInt_of h'
    obtain ⟨is, rfl, h2⟩ := countI_of h1
    refine ⟨i :: is, rfl, ?_⟩
    rw [List.countP_cons]
    have e : eqZ i x = (i == x) := eqZ_eq i x
    rw [e] at h2
    cases q : i == x with
    | true => rw [q] at h2; simpa using h2
    | false => rw [q] at h2; simpa using h2
theorem ints_of {ρ : List Addr} : ∀ {is : List Int} {items : List Value}, VRs ρ (is.map V.int) items → (∀ y ∈ items, ∃ i t, y = .int i t) ∧ items.map numOf = is
  | [], [], _ => ⟨fun _ h => (nomatch h), rfl⟩
  | i :: is, v :: items, ⟨⟨t, a⟩, b⟩ => by
    obtain ⟨h1, h2⟩ := ints_of b
    subst a
    refine ⟨fun y hy => ?_, by rw [List.map_cons, h2]; rfl⟩
    rcases List.mem_cons.mp hy with rfl | hy
    · exact ⟨i, t, rfl⟩
    · exact h1 y hy
  | [], _ :: _, q => q.elim
  | _ :: _, [], q => q.elim
theorem op_count : Op2 W n oCount (fun a b => call (.builtin "list.count") [a, b]) := by
  intro A E s h₀ ρ φ l H k Q a b x y hR R ra rb h hP
  obtain ⟨j, vs, rfl, e, h1⟩ := asList_of h
  obtain ⟨i, rfl, h2⟩ := asInt_of h1
  obtain ⟨is, rfl, h3⟩ := countI_of h2
  obtain ⟨t, rfl⟩ := rb
  obtain ⟨adr, items, rfl, ha, ⟨nn, hp⟩, hv⟩ := R.h.listAt e ra
  obtain ⟨hi, hm⟩ := ints_of hv
  refine call_meets PySem.F.slot_list_count ⟨_, hp, rfl⟩ PySem.F.entry_list_count (PySem.F.args_list_count_2 _ _)
    (MeetsSeq.list_count adr items.toArray nn (.int i t) (fun y => numOf y == i) (fun y hy => ?_)) ⟨hp, ?_⟩
  · obtain ⟨c, u, rfl⟩ := hi y (by simpa using hy)
    exact MeetsSeq.EqGives.int c i u t
  · refine hP.here (x := .int (Int.ofNat (is.countP (· == i)))) (R.tok _) ⟨s.toks, ?_⟩ h3
    rw [List.toList_toArray, ← hm, List.countP_map]
    rfl

-- join
theorem strsOf_of : ∀ {vs : List V} {k : List Tx → Bool}, strsOf vs k = true → ∃ ss : List Tx, vs = ss.map V.str ∧ k ss = true
  | [], k, h => ⟨[], rfl, h⟩
  | v :: vs, k, h => by
    have h' : asStr v (fun s => strsOf vs fun l => k (s :: l)) = true := h
    obtain ⟨s, rfl, h1⟩ := asStr_of h'
    obtain ⟨ss, rfl, h2⟩ := strsOf_of h1
    exact ⟨s :: ss, rfl, h2⟩
theorem strs_of {ρ : List Addr} : ∀ {ss : List Tx} {items : List Value}, VRs ρ (ss.map V.str) items → StrsAre items (ss.map toStr)
  | [], [], _ => .nil
  | s :: ss, v :: items, ⟨⟨t, a⟩, b⟩ => by subst a; exact .cons (toStr s) t (strs_of b)
  | [], _ :: _, q => q.elim
  | _ :: _, [], q => q.elim
theorem vrs_of_strs {ρ : List Addr} : ∀ {ss : List Tx} {items : List Value}, StrsAre items (ss.map toStr) → VRs ρ (ss.map V.str) items
  | [], [], _ => trivial
  | s :: ss, v :: items, h => by
    cases h with
    | cons y t h => exact ⟨⟨t, rfl⟩, vrs_of_strs h⟩
theorem joinT_cons (sep x y : Tx) (l : List Tx) : joinT sep (x :: y :: l) = x ++ (sep ++ joinT sep (y :: l)) := by
  show appL x (appL sep (joinT sep (y :: l))) = _
  rw [appL_eq, appL_eq]
theorem join_toStr (sep : Tx) : ∀ l : List Tx, Str.join (toStr sep) (l.map toStr) = toStr (joinT sep l)
  | [] => rfl
  | [x] => rfl
  | x :: y :: l => by
    show toStr x ++ toStr sep ++ Str.join (toStr sep) ((y :: l).map toStr) = _
    rw [join_toStr sep (y :: l), joinT_cons, toStr_app, toStr_app, List.append_assoc]
theorem sumL_of : ∀ {l : List Tx}, sumL l = ((l.map toStr).map (·.length)).sum + (l.map toStr).length
  | [] => rfl
  | x :: l => by
    show (lenL x).succ + sumL l = _
    rw [sumL_of, lenL_eq]
    simp only [List.map_cons, List.sum_cons, List.length_cons, List.length_map, toStr_len]
    omega
theorem op_join : Op2 W n oJoin (fun a b => call (.builtin "str.join") [a, b]) := by
  intro A E s h₀ ρ φ l H k Q a b x y hR R ra rb h hP
  obtain ⟨sep, rfl, h1⟩ := asStr_of h
  obtain ⟨j, vs, rfl, e, h2⟩ := asList_of h1
  obtain ⟨ss, rfl, h3⟩ := strsOf_of h2
  obtain ⟨hc, h4⟩ := chk_of h3
  obtain ⟨hd, h5⟩ := chk_of h4
  have hc := PySem.W.Z.ble_iff.mp hc
  have hd := PySem.W.Z.ble_iff.mp hd
  rw [lenL_eq] at hc
  rw [sumL_of] at hd
  obtain ⟨t, rfl⟩ := ra
  obtain ⟨adr, items, rfl, ha, hp, hv⟩ := R.h.listAt e rb
  refine join_listW (PlainList.isList hp) (by rw [List.toList_toArray]; exact strs_of hv) (by rw [toStr_len]; exact hc) (by omega) fun t' kk => ?_
  exact hP.here (x := .str (joinT sep ss)) (R.tok kk) ⟨t', by rw [show Txt.join (toStr sep) (ss.map toStr) = Builtin.Str.glued (toStr sep) (ss.map toStr) from rfl, StrLaws.glued_eq_join, join_toStr]⟩ h5

-- split at one sign
theorem split_push {A : Around} {E : Value → Shared → Prop} {s : Shared} {x y : Str} {t u : Tok} {Q : Value → Shared → Prop} (hy : (y.length == 0) = false)
    (h : ∀ (l : List (Str × Tok)) (k : Nat), l.map (·.1) = Txt.split x y → Q (.ref s.heap.objs.size) { s with heap := s.heap.push { cls := .type "list", data := .seq (strValues l).toArray }, toks := k })
    (hsz : x.length + 2 ≤ sizeLine) : wpAny (model W.prog W.w) A (call (.builtin "str.split") [.str x t, .str y u]) Q E s := by
  have hn : (Builtin.Str.partsBetween x (Builtin.Str.occurrences x y 0 x.length (x.length + 1)) y.length).length ≤ sizeLine := by
    have e1 := StrLaws.occ_length_le x y 0 x.length (x.length + 1)
    rw [length_partsBetween]; omega
  cases h1 : (decide (x.length < y.length) || decide (Builtin.Str.strKind x < Builtin.Str.strKind y))
  · cases hf : (Builtin.Str.occurrences x y 0 x.length (x.length + 1)).isEmpty
    · refine call_meets PySem.F.slot_str_split (typeIs_str _ _ _) PySem.F.entry_str_split (PySem.F.args_str_split_2 _ _) (meets_str_split_sep x y t u h1 hy hf (by omega) hn) ?_
      show wants Q E _ { s with toks := _, heap := s.heap.push { cls := .type "list", data := .seq (strsFrom s.toks (Builtin.Str.partsBetween x (Builtin.Str.occurrences x y 0 x.length (x.length + 1)) y.length)).toArray } }
      rw [strsFrom_eq]
      exact h (numbered s.toks _) _ ((numbered_texts _ _).trans ((if_neg (ne_true_of_eq_false h1)).trans (if_neg (ne_true_of_eq_false hf))).symm)
    · exact call_meets PySem.F.slot_str_split (typeIs_str _ _ _) PySem.F.entry_str_split (PySem.F.args_str_split_2 _ _) (meets_str_split_not_found x y t u h1 hy hf)
        (h [(x, t)] s.toks ((if_neg (ne_true_of_eq_false h1)).trans (if_pos hf)).symm)
  · exact call_meets PySem.F.slot_str_split (typeIs_str _ _ _) PySem.F.entry_str_split (PySem.F.args_str_split_2 _ _) (meets_str_split_cannot_occur x y t u h1)
      (h [(x, t)] s.toks (if_pos h1).symm)
theorem splitC_ne (c : Nat) : ∀ (s cur : Tx), splitC c s cur ≠ []
  | [], cur => by simp [splitC]
  | x :: s, cur => by
    show @Bool.rec (fun _ => List Tx) (splitC c s (x :: cur)) (revL cur [] :: splitC c s []) (Nat.beq x c) ≠ []
    cases Nat.beq x c with
    | true => simp
    | false => exact splitC_ne c s (x :: cur)
theorem splitC_free (c : Nat) : ∀ (s cur : Tx), c ∉ cur → ∀ p ∈ splitC c s cur, c ∉ p
  | [], cur, hc, p, hp => by
    have hp : p ∈ [revL cur []] := hp
    rw [List.mem_singleton, revL_eq, List.append_nil] at hp
    subst hp
    simpa using hc
  | x :: s, cur, hc, p, hp => by
    have hp : p ∈ @Bool.rec (fun _ => List Tx) (splitC c s (x :: cur)) (revL cur [] :: splitC c s []) (Nat.beq x c) := hp
    cases q : Nat.beq x c with
    | true =>
      rw [q] at hp
      rcases List.mem_cons.mp hp with rfl | hp
      · rw [revL_eq, List.append_nil]; simpa using hc
      · exact splitC_free c s [] (by simp) p hp
    | false =>
      rw [q] at hp
      refine splitC_free c s (x :: cur) (fun hm => ?_) p hp
      rcases List.mem_cons.mp hm with rfl | hm
      · rw [Nat.beq_refl] at q; cases q
      · exact hc hm
theorem splitC_join (c d : Nat) : ∀ (s cur : Tx), joinT [d] (splitC c s cur) = cur.reverse ++ s.map (fun z => if z = c then d else z)
  | [], cur => by
    show joinT [d] [revL cur []] = _
    rw [revL_eq, List.append_nil]
    simp [joinT]
  | x :: s, cur => by
    show joinT [d] (@Bool.rec (fun _ => List Tx) (splitC c s (x :: cur)) (revL cur [] :: splitC c s []) (Nat.beq x c)) = _
    cases q : Nat.beq x c with
    | true =>
      have e : x = c := Nat.eq_of_beq_eq_true q
      subst e
      show joinT [d] (revL cur [] :: splitC x s []) = _
      cases q2 : splitC x s [] with
      | nil => exact absurd q2 (splitC_ne x s [])
      | cons y l =>
        rw [joinT_cons, ← q2, splitC_join x d s [], revL_eq]
        simp
    | false =>
      have e : x ≠ c := fun e => by rw [e, Nat.beq_refl] at q; cases q
      show joinT [d] (splitC c s (x :: cur)) = _
      rw [splitC_join c d s (x :: cur)]
      simp [e]
theorem join_inj (c : Nat) : ∀ (ps qs : List Tx), ps ≠ [] → qs ≠ [] → (∀ p ∈ ps, c ∉ p) → (∀ q ∈ qs, c ∉ q) → joinT [c] ps = joinT [c] qs → ps = qs
  | [], _, h, _, _, _, _ => absurd rfl h
  | _, [], _, h, _, _, _ => absurd rfl h
  | [p], [q], _, _, _, _, e => by
    have e : p = q := e
    rw [e]
  | [p], q :: q' :: qs, _, _, hp, _, e => by
    rw [joinT_cons] at e
    have e : p = q ++ ([c] ++ joinT [c] (q' :: qs)) := e
    exact absurd (show c ∈ p by rw [e]; simp) (hp p (by simp))
  | p :: p' :: ps, [q], _, _, _, hq, e => by
    rw [joinT_cons] at e
    have e : p ++ ([c] ++ joinT [c] (p' :: ps)) = q := e
    exact absurd (show c ∈ q by rw [← e]; simp) (hq q (by simp))
  | p :: p' :: ps, q :: q' :: qs, _, _, hp, hq, e => by
    rw [joinT_cons, joinT_cons] at e
    have key : ∀ (a b : Tx), c ∉ a → c ∉ b → ∀ u v : Tx, a ++ ([c] ++ u) = b ++ ([c] ++ v) → a = b ∧ u = v := by
      intro a
      induction a with
      | nil =>
        intro b _ hb u v e
        cases b with
        | nil => simpa using e
        | cons y b => simp at e; exact absurd (by rw [e.1]; simp) hb
      | cons x a ih =>
        intro b ha hb u v e
        cases b with
        | nil => simp at e; exact absurd (by rw [e.1]; simp) ha
        | cons y b =>
          simp at e
          obtain ⟨h1, h2⟩ := e
          have := ih b (fun h => ha (List.mem_cons_of_mem _ h)) (fun h => hb (List.mem_cons_of_mem _ h)) u v (by simpa using h2)
          exact ⟨by rw [h1, this.1], this.2⟩
    obtain ⟨h1, h2⟩ := key p q (hp p (by simp)) (hq q (by simp)) _ _ e
    rw [h1, join_inj c (p' :: ps) (q' :: qs) (by simp) (by simp) (fun x hx => hp x (List.mem_cons_of_mem _ hx)) (fun x hx => hq x (List.mem_cons_of_mem _ hx)) h2]
theorem toStr_back (x : Str) : toStr x.cps.toList = x := by cases x; simp [toStr]
theorem split_toStr (s : Tx) (c : Nat) : Txt.split (toStr s) ⟨#[c]⟩ = (splitC c s []).map toStr := by
  have h1 : ((Txt.split (toStr s) ⟨#[c]⟩).map (·.cps.toList)).map toStr = Txt.split (toStr s) ⟨#[c]⟩ := by
    rw [List.map_map]
    conv => rhs; rw [← List.map_id (Txt.split (toStr s) ⟨#[c]⟩)]
    exact List.map_congr_left fun x _ => toStr_back x
  rw [← h1]
  congr 1
  refine join_inj c _ _ (fun h => ?_) (splitC_ne c s []) (fun p hp => ?_) (splitC_free c s [] (by simp)) ?_
  · have := split_pos (toStr s) ⟨#[c]⟩
    rw [List.map_eq_nil_iff] at h
    rw [h] at this; simp at this
  · obtain ⟨x, hx, rfl⟩ := List.mem_map.mp hp
    exact StrLaws.split_free _ c x hx
  · have h2 := StrLaws.join_split (toStr s) ⟨#[c]⟩
    rw [← h1, show (⟨#[c]⟩ : Str) = toStr [c] from rfl, join_toStr] at h2
    have h3 : joinT [c] ((Txt.split (toStr s) (toStr [c])).map (·.cps.toList)) = s := by simpa [toStr] using congrArg Str.cps h2
    rw [splitC_join c c s []]
    simp only [List.reverse_nil, List.nil_append]
    rw [show (⟨#[c]⟩ : Str) = toStr [c] from rfl, h3]
    conv => lhs; rw [← List.map_id s]
    exact List.map_congr_left fun z _ => by by_cases e : z = c <;> simp [e]
theorem strsAre_vals (l : List (Str × Tok)) : StrsAre (strValues l) (l.map (·.1)) := strsAre_of_values l
theorem op_split : Op2 W n oSplit (fun a b => call (.builtin "str.split") [a, b]) := by
  intro A E s h₀ ρ φ l H k Q a b x y hR R ra rb h hP
  obtain ⟨w, rfl, h1⟩ := asStr_of h
  obtain ⟨sep, rfl, h2⟩ := asStr_of h1
  obtain ⟨t, rfl⟩ := ra
  obtain ⟨u, rfl⟩ := rb
  match sep, h2 with
  | [c], h2 =>
    obtain ⟨hc, h3⟩ := chk_of h2
    have hc := PySem.W.Z.ble_iff.mp hc
    rw [lenL_eq] at hc
    rw [mapL_eq] at h3
    refine split_push (y := toStr [c]) (by rfl) (fun lst kk hl => ?_) (by rw [toStr_len, sizeLine_eq]; omega)
    have hl : lst.map (·.1) = (splitC c w []).map toStr := hl.trans (split_toStr w c)
    have hs := strsAre_vals lst
    rw [hl] at hs
    exact hP.new (s := { s with toks := kk }) (o := .list ((splitC c w []).map V.str)) (R.tok kk) (obList (items := strValues lst) (vrs_of_strs hs)) h3
  | [], h2 => exact absurd h2 Bool.false_ne_true
  | _ :: _ :: _, h2 => exact absurd h2 Bool.false_ne_true
end
end Mine
namespace Mine
open PySem PySem.W PyProof.Rows

/-- the contract of a function value -/
def RefFn (W : Wd) (n : Nat) (fv : Addr) (F : Fn) : Prop :=
  ∀ (A : Around) (E : Value → Shared → Prop) (s : Shared) (h₀ : Heap) (ρ : List Addr) (φ : List Loc) (l : List V) (H : Hp) (k : K) (Q : Value → Shared → Prop) (vals : List Value) (xs : List V),
    Room n A → SR W φ h₀ ρ l H s → VRs ρ xs vals → F xs H k = true → Post W φ h₀ ρ l k Q → wpAny (model W.prog W.w) A (call (.ref fv) vals) Q E s

/-- where a function stands, and what it is -/
structure FnAt (W : Wd) (fv : Addr) (fd : FuncData) : Prop where
  obj : ∃ o, W.hB.get? fv = some o ∧ o.data = .func fd
  code : W.hB.CodeRec fd.code fd.qualname
  glob : fd.globals = mainGlobals
  bi : fd.builtins = builtinsNs
  clo : fd.closure = []

/-- the scope of a function: its names in the order of their places, the parameters first -/
structure FnSc (Γ : Sc) (ns : List Str) : Prop where
  kind : Γ.sc.kind = .function
  nd : ns.Nodup
  all : ∀ x ∈ ns, Γ.sc.names.lookup x = some .local ∨ Γ.sc.names.lookup x = some .cell
  slot : ∀ p ∈ Γ.names, ns[p.2]? = some p.1

section
variable {W : Wd} {n : Nat} {Γ : Sc}

theorem Ref.call {x : Str} {fv : Addr} {fd : FuncData} {F : Fn} {es : List PySem.Expr} {Fs : List C} {p pos : Pos} (hx : Γ.sc.names.lookup x = some .globalImplicit) (hg : W.mg x = some (.ref fv)) (hA : FnAt W fv fd) (hF : RefFn W n fv F) (hr : Refs W n Γ es Fs)
    (hd : (x == ("__debug__" : Str)) = false := by decide +kernel) : Ref W n Γ (.Call (.Name x p) es [] pos) (cCall F Fs) := by
  intro A E s h₀ ρ φ env l H k Q hR hE R h hP
  refine wpAny_Call_NameR (load_glob hE R.h hx hg hd ?_)
  obtain ⟨o, ho, hod⟩ := hA.obj
  have := hr.args (pos := pos) (f := .ref fv) (Q := fun a s₁ => (s₁.heap.get? fv = some o ∧ o.data = .func fd) ∧ wpAny (model W.prog W.w) A (PySem.call (.ref fv) ([] ++ a.pos) a.kw) Q E s₁) (E := E) hR hE R h fun vs xs ρ₁ H₁ s₁ p₁ R₁ r₁ h₁ => ?_
  · exact Calls.callWith_function (o := o) (fd := fd) this.1
  · exact ⟨⟨R₁.h.baseS _ _ ho, hod⟩, hF A E s₁ h₀ ρ₁ φ l H₁ k Q vs xs hR R₁ r₁ h₁ (hP.mono p₁)⟩

-- parameters
theorem bindL_not {kindOf : Str → Option NameKind} : ∀ {binds : List (Str × Value)} {m : Str → Option Value} {x : Str}, x ∉ binds.map (·.1) → bindL kindOf binds m x = m x
  | [], _, _, _ => rfl
  | (y, v) :: r, m, x, h => by
    unfold bindL
    rw [bindL_not (fun hm => h (by simp at hm ⊢; exact .inr hm))]
    split
    · show (if x = y then some v else m x) = m x
      rw [if_neg (fun e => h (by simp [e]))]
    · rfl
theorem bindC_not {kindOf : Str → Option NameKind} : ∀ {binds : List (Str × Value)} {m : Str → Option Value} {x : Str}, x ∉ binds.map (·.1) → bindC kindOf binds m x = m x
  | [], _, _, _ => rfl
  | (y, v) :: r, m, x, h => by
    unfold bindC
    rw [bindC_not (fun hm => h (by simp at hm ⊢; exact .inr hm))]
    split
    · rfl
    · show (if x = y then some v else m x) = m x
      rw [if_neg (fun e => h (by simp [e]))]
theorem bindL_get {kindOf : Str → Option NameKind} : ∀ {ps : List Str} {vals : List Value} {m : Str → Option Value} {i : Nat} {x : Str} {v : Value}, ps.Nodup → ps[i]? = some x → vals[i]? = some v → kindOf x = some .local → bindL kindOf (ps.zip vals) m x = some v
  | y :: ps, w :: vals, m, 0, x, v, hn, h1, h2, hk => by
    simp at h1 h2
    subst h1 h2
    unfold List.zip List.zipWith bindL
    rw [if_pos hk]
    show bindL kindOf (ps.zip vals) _ y = _
    rw [bindL_not (fun hm => (List.nodup_cons.mp hn).1 (by
      obtain ⟨p, hp, e⟩ := List.mem_map.mp hm
      rw [← e]; exact (List.of_mem_zip hp).1))]
    simp
  | y :: ps, w :: vals, m, i + 1, x, v, hn, h1, h2, hk => by
    unfold List.zip List.zipWith bindL
    exact bindL_get (List.nodup_cons.mp hn).2 (by simpa using h1) (by simpa using h2) hk
  | [], _, _, _, _, _, _, h, _, _ => by simp at h
  | _ :: _, [], _, _, _, _, _, _, h, _ => by simp at h
theorem bindC_get {kindOf : Str → Option NameKind} : ∀ {ps : List Str} {vals : List Value} {m : Str → Option Value} {i : Nat} {x : Str} {v : Value}, ps.Nodup → ps[i]? = some x → vals[i]? = some v → kindOf x ≠ some .local → bindC kindOf (ps.zip vals) m x = some v
  | y :: ps, w :: vals, m, 0, x, v, hn, h1, h2, hk => by
    simp at h1 h2
    subst h1 h2
    unfold List.zip List.zipWith bindC
    rw [if_neg hk]
    show bindC kindOf (ps.zip vals) _ y = _
    rw [bindC_not (fun hm => (List.nodup_cons.mp hn).1 (by
      obtain ⟨p, hp, e⟩ := List.mem_map.mp hm
      rw [← e]; exact (List.of_mem_zip hp).1))]
    simp
  | y :: ps, w :: vals, m, i + 1, x, v, hn, h1, h2, hk => by
    unfold List.zip List.zipWith bindC
    exact bindC_get (List.nodup_cons.mp hn).2 (by simpa using h1) (by simpa using h2) hk
  | [], _, _, _, _, _, _, h, _, _ => by simp at h
  | _ :: _, [], _, _, _, _, _, _, h, _ => by simp at h

theorem unbs_eq (m : Nat) : unbs m = List.replicate m .unb := by
  induction m with
  | zero => rfl
  | succ m ih => show V.unb :: unbs m = _; rw [ih]; rfl
theorem mask_sub {h : Heap} {ρ : List Addr} {b : Addr} {o : Obj} (e : (mask h ρ).get? b = some o) : h.get? b = some o ∧ b ∉ ρ := by
  rw [mask_get] at e
  by_cases q : b ∈ ρ
  · rw [if_pos q] at e; cases e
  · rw [if_neg q] at e; exact ⟨e, q⟩

/-- the heap as the function called finds it -/
theorem HR.called {h₀ : Heap} {ρ : List Addr} {H : Hp} {s s₁ : Shared} (R : HR W h₀ ρ H s) (hk : ∀ b o, s.heap.get? b = some o → s₁.heap.get? b = some o) (hos : s₁.os = s.os) (hg : s₁.gens = s.gens) : HR W (mask s.heap ρ) ρ H s₁ := by
  have R' := R.ext (s' := s₁) hk hos hg
  refine ⟨R'.len, R'.nd, R'.obj, R'.live, fun b o e => hk b o (mask_sub e).1, fun a ha => by rw [mask_get, if_pos ha], fun b o e => ?_, R'.os, R'.bare, R'.bok⟩
  rw [mask_get, if_neg]
  · exact R.keep b o (R.base b o e)
  · intro hm
    have := R.sep b hm
    rw [R.base b o e] at this; cases this
/-- back in the caller -/
theorem SR.back {φ : List Loc} {h₀ : Heap} {ρ ρ' : List Addr} {l : List V} {H H' : Hp} {s s' : Shared} (R : SR W φ h₀ ρ l H s) (R' : HR W (mask s.heap ρ) ρ' H' s') (hp : ρ <+: ρ') : SR W φ h₀ ρ' l H' s' := by
  have hm : ∀ b o, b ∉ ρ → s.heap.get? b = some o → (mask s.heap ρ).get? b = some o := fun b o hb e => by rw [mask_get, if_neg hb]; exact e
  have hsub : ∀ b o, h₀.get? b = some o → (mask s.heap ρ).get? b = some o := fun b o e => hm b o (fun h => by have := R.h.sep b h; rw [e] at this; cases this) (R.h.keep b o e)
  have hloc : ∀ lc ∈ φ, ∃ o, s.heap.get? lc.addr = some o := fun lc h => by
    have := R.f.ok lc h
    cases lc with
    | var L x => obtain ⟨m, o, es, ep, e, _⟩ := this; exact ⟨o, e⟩
    | cell c => obtain ⟨v, o, e, _⟩ := this; exact ⟨o, e⟩
  have hkeep : ∀ lc ∈ φ, ∀ o, s.heap.get? lc.addr = some o → s'.heap.get? lc.addr = some o := fun lc h o e => R'.keep _ _ (hm _ o (R.f.nρ lc h) e)
  refine ⟨R'.weaken hsub R.h.base, ⟨R.f.len, fun lc h => (R.f.ok lc h).at (hkeep lc h), fun i lc x e1 e2 hx => let ⟨v, hv, hr⟩ := R.f.has i lc x e1 e2 hx; ⟨v, hv.at (hkeep lc (List.mem_of_getElem? e1)), hr.mono hp⟩, R.f.apart, fun lc h hmem => ?_, R.f.n0⟩⟩
  obtain ⟨o, e⟩ := hloc lc h
  have := R'.sep _ hmem
  rw [hm _ o (R.f.nρ lc h) e] at this; cases this

theorem fn_cell {ns : List Str} (fs : FnSc Γ ns) {L : Nat} {x : Str} (hx : x ∈ ns) (h : Γ.sc.names.lookup x ≠ some .local) : ∃ c, (cellsFrom L Γ.sc.names []).lookup x = some c := by
  have hc := (fs.all x hx).resolve_left h
  obtain ⟨c, hm⟩ := (cellsFrom_mem (m := L) (acc := [])).mpr (.inr (mem_of_lookup hc))
  exact lookup_isSome hm

/-- a function by its body -/
theorem RefFn.of {fv : Addr} {fd : FuncData} {body : List Stmt} {b : S} {ns ps : List Str} {m : Nat} (hA : FnAt W fv fd) (hbody : fd.body = .stmts body) (hsc : fd.scope = Γ.sc) (fs : FnSc Γ ns) (hps : ps = ns.take ps.length) (hm : ns.length = ps.length + m)
    (hbind : ∀ vals : List Value, vals.length = ps.length → bindArgs fd ⟨vals, []⟩ = pure (ps.zip vals)) (hb : RefS W n Γ body b)
    (hco : fd.scope.isCoroutine = false) (hgen : fd.scope.isGenerator = false) : RefFn W (n + 1) fv (fun args h k => chk (Nat.beq (lenL args) ps.length) (fDef m b args h k)) := by
  intro A E s h₀ ρ φ l H k Q vals xs hR R r h hP
  obtain ⟨hc, h⟩ := chk_of h
  have hlen := Nat.eq_of_beq_eq_true hc
  rw [lenL_eq] at hlen
  have hvl : vals.length = ps.length := by rw [← r.len]; exact hlen
  have hpl : ps.length ≤ ns.length := by omega
  have hfst : (ps.zip vals).map (·.1) = ps := by rw [List.map_fst_zip]; omega
  obtain ⟨o, ho, hod⟩ := hA.obj
  have hk : fd.scope.kind = .function := by rw [hsc]; exact fs.kind
  have hpin : ∀ x ∈ ps, x ∈ ns := fun x hx => by rw [hps] at hx; exact List.mem_of_mem_take hx
  have hpnd : ps.Nodup := by rw [hps]; exact List.Nodup.sublist (List.take_sublist _ _) fs.nd
  refine wpAny_call (codeAny_call_cells hR.depth (R.h.baseS _ _ ho) hod (R.h.bok.nolimit.keeps R.h.baseS) (hA.code.keeps R.h.baseS) hbody (hbind vals hvl) hA.clo (fun p hp => ?_) (fun s₁ ic => ?_) hco hgen hk)
  · have hx : p.1 ∈ ns := hpin _ (by rw [← hfst]; exact List.mem_map_of_mem hp)
    rw [hsc]
    by_cases q : Γ.sc.names.lookup p.1 = some .local
    · exact .inl q
    · obtain ⟨c, hc⟩ := fn_cell fs (L := s.heap.objs.size + 1) hx q
      exact .inr ⟨(fs.all _ hx).resolve_left q, by rw [hc]; rfl⟩
  · obtain ⟨hp₁, tk, hs₁, _⟩ := ic.done
    have hkeep := ic.toInCall.keep
    have hos : s₁.os = s.os := by rw [hs₁]
    have hgens : s₁.gens = s.gens := by rw [hs₁]
    have RH := R.h.called hkeep hos hgens
    have hL : (callEnvC fd s.heap.objs.size fv).locals = s.heap.objs.size := rfl
    have hcs : (callEnvC fd s.heap.objs.size fv).cells = cellsFrom (s.heap.objs.size + 1) Γ.sc.names [] := by rw [← hsc]; rfl
    have hko : (callEnvC fd s.heap.objs.size fv).kindOf = fun x => Γ.sc.names.lookup x := by rw [← hsc]; rfl
    have hns := ic.toInCall.ns
    have hcell := ic.cell
    have hap := ic.apart
    have hab := ic.above
    rw [hL, hko] at hns
    rw [hcs, hko] at hcell
    rw [hcs] at hap hab
    rw [hL] at hab
    -- the places
    have hφ : ∀ lc ∈ ns.map (locOf Γ.sc s.heap.objs.size (cellsFrom (s.heap.objs.size + 1) Γ.sc.names [])), lc.ok s₁.heap ∧ (s.heap.objs.size : Nat) ≤ lc.addr := by
      intro lc hm
      obtain ⟨x, hx, rfl⟩ := List.mem_map.mp hm
      unfold locOf
      by_cases q : Γ.sc.names.lookup x = some .local
      · rw [if_pos q]; exact ⟨⟨_, hns⟩, Nat.le_refl _⟩
      · rw [if_neg q]
        obtain ⟨c, hc⟩ := fn_cell fs (L := s.heap.objs.size + 1) hx q
        rw [hc]
        exact ⟨⟨_, hcell x c hc⟩, Nat.le_of_lt (hab x c (mem_of_lookup hc))⟩
    have fresh : ∀ a, (s.heap.objs.size : Nat) ≤ a → a ∉ ρ ∧ (mask s.heap ρ).get? a = none := fun a ha => by
      have h1 := PV.fresh R (pv := [a]) (by simpa using ha) a (by simp)
      refine ⟨h1.1, ?_⟩
      cases e : (mask s.heap ρ).get? a with
      | none => rfl
      | some o' =>
        have : @LT.lt Nat _ a s.heap.objs.size := Heap.lt_size (mask_sub e).1
        omega
    have FRn : FR (ns.map (locOf Γ.sc s.heap.objs.size (cellsFrom (s.heap.objs.size + 1) Γ.sc.names []))) (mask s.heap ρ) ρ (appL xs (unbs m)) s₁ := by
      refine ⟨by rw [appL_eq, unbs_eq]; simp; omega, fun lc h => (hφ lc h).1, fun i lc x e1 e2 hx => ?_, ?_, fun lc h => (fresh _ (hφ lc h).2).1, fun lc h => (fresh _ (hφ lc h).2).2⟩
      · rw [appL_eq, unbs_eq] at e2
        by_cases q : i < xs.length
        · rw [List.getElem?_append_left q] at e2
          obtain ⟨v, hv1, hv2⟩ := r.get e2
          rw [List.getElem?_map] at e1
          cases hn : ns[i]? with
          | none => rw [hn] at e1; cases e1
          | some y =>
            rw [hn] at e1
            cases e1
            have hy : y ∈ ns := List.mem_of_getElem? hn
            have hpi : ps[i]? = some y := by rw [hps, List.getElem?_take_of_lt (by omega)]; exact hn
            refine ⟨v, ?_, hv2⟩
            unfold locOf
            by_cases q2 : Γ.sc.names.lookup y = some .local
            · rw [if_pos q2]
              exact ⟨_, hns, bindL_get hpnd hpi hv1 q2⟩
            · rw [if_neg q2]
              obtain ⟨c, hc⟩ := fn_cell fs (L := s.heap.objs.size + 1) hy q2
              have := hcell y c hc
              rw [bindC_get hpnd hpi hv1 q2] at this
              rw [hc]; exact this
        · rw [List.getElem?_append_right (Nat.le_of_not_lt q), List.getElem?_replicate] at e2
          split at e2
          · cases e2; exact absurd rfl hx
          · cases e2
      · rw [List.pairwise_map]
        refine List.Pairwise.imp_of_mem (fun {x y} hx hy hne => ?_) fs.nd
        unfold locOf
        by_cases q1 : Γ.sc.names.lookup x = some .local <;> by_cases q2 : Γ.sc.names.lookup y = some .local
        · rw [if_pos q1, if_pos q2]; exact .inr hne
        · rw [if_pos q1, if_neg q2]
          obtain ⟨c, hc⟩ := fn_cell fs (L := s.heap.objs.size + 1) hy q2
          rw [hc]; exact Nat.ne_of_lt (hab y c (mem_of_lookup hc))
        · rw [if_neg q1, if_pos q2]
          obtain ⟨c, hc⟩ := fn_cell fs (L := s.heap.objs.size + 1) hx q1
          rw [hc]; exact Nat.ne_of_lt (hab x c (mem_of_lookup hc))
        · rw [if_neg q1, if_neg q2]
          obtain ⟨c, hc⟩ := fn_cell fs (L := s.heap.objs.size + 1) hx q1
          obtain ⟨d, hd⟩ := fn_cell fs (L := s.heap.objs.size + 1) hy q2
          rw [hc, hd]
          intro e
          have e : c = d := e
          subst e
          exact hne (name_of_addr hap (mem_of_lookup hc) (mem_of_lookup hd))
    have hEn : EnvOK Γ (ns.map (locOf Γ.sc s.heap.objs.size (cellsFrom (s.heap.objs.size + 1) Γ.sc.names []))) (callEnvC fd s.heap.objs.size fv) := by
      refine ⟨hsc, fs.kind, hA.glob, hA.bi, fun x i hx => ?_⟩
      have hn : ns[i]? = some x := fs.slot (x, i) (mem_of_lookup hx)
      have hxm : x ∈ ns := List.mem_of_getElem? hn
      refine ⟨locOf Γ.sc s.heap.objs.size (cellsFrom (s.heap.objs.size + 1) Γ.sc.names []) x, by rw [List.getElem?_map, hn]; rfl, ?_⟩
      unfold locOf
      by_cases q : Γ.sc.names.lookup x = some .local
      · rw [if_pos q]; exact .inl ⟨q, rfl⟩
      · rw [if_neg q]
        obtain ⟨c, hc⟩ := fn_cell fs (L := s.heap.objs.size + 1) hxm q
        exact .inr ⟨.inl ((fs.all x hxm).resolve_left q), c, by rw [hcs]; exact hc, by rw [hc]; rfl⟩
    have h' : b (appL xs (unbs m)) H (fun _ h => k .none h) k (fun _ _ => false) = true := h
    refine wpAny_mono (hb (A.deeper (callEnvC fd s.heap.objs.size fv)) _ s₁ (mask s.heap ρ) ρ _ _ (appL xs (unbs m)) H _ _ _ (fun f s' => Q (match f with | .ret v => v | _ => .none) s') hR.deeper hEn ⟨RH, FRn⟩ h'
      ⟨fun ρ' l' H' s' p R' h' => hP .none .none ρ' H' s' p (R.back R'.h p) rfl h', fun v x ρ' l' H' s' p R' r' h' => hP v x ρ' H' s' p (R.back R'.h p) r' h', fun ρ' l' H' s' p R' h' => absurd h' Bool.false_ne_true⟩) (fun f s' hq => hq) fun _ _ e => e
end
end Mine
namespace Mine
open PySem PySem.W PyProof.Rows

-- the sorted list of texts
def leT (a b : Tx) : Prop := ¬ b < a
theorem insT_cons (x y : Tx) (l : List Tx) : insT x (y :: l) = if y < x then y :: insT x l else x :: y :: l := by
  show @Bool.rec (fun _ => List Tx) (x :: y :: l) (y :: insT x l) (ltT y x) = _
  rw [ltT_eq]
  by_cases h : y < x
  · rw [decide_eq_true h, if_pos h]
  · rw [decide_eq_false h, if_neg h]
theorem insT_perm (x : Tx) : ∀ l : List Tx, (insT x l).Perm (x :: l)
  | [] => .refl _
  | y :: l => by
    rw [insT_cons]
    split
    · exact ((insT_perm x l).cons y).trans (.swap x y l)
    · exact .refl _
theorem insT_sorted (x : Tx) : ∀ l : List Tx, l.Pairwise leT → (insT x l).Pairwise leT
  | [], _ => List.pairwise_singleton _ _
  | y :: l, h => by
    rw [List.pairwise_cons] at h
    rw [insT_cons]
    split
    · rename_i hlt
      rw [List.pairwise_cons]
      refine ⟨fun z hz => ?_, insT_sorted x l h.2⟩
      rcases List.mem_cons.mp ((insT_perm x l).mem_iff.mp hz) with rfl | hz
      · exact fun q => List.lt_irrefl _ (List.lt_trans hlt q)
      · exact h.1 z hz
    · rename_i hlt
      rw [List.pairwise_cons]
      refine ⟨fun z hz => ?_, List.pairwise_cons.mpr h⟩
      rcases List.mem_cons.mp hz with rfl | hz
      · exact hlt
      · intro q
        rcases PyProof.Rows.strKind.negTrans z y x (decide_eq_true q) with r | r
        · exact h.1 z hz (of_decide_eq_true r)
        · exact hlt (of_decide_eq_true r)
theorem sortT_perm : ∀ l : List Tx, (sortT l).Perm l
  | [] => .refl _
  | x :: l => (insT_perm x (sortT l)).trans ((sortT_perm l).cons x)
theorem sortT_sorted : ∀ l : List Tx, (sortT l).Pairwise leT
  | [] => .nil
  | x :: l => insT_sorted x (sortT l) (sortT_sorted l)
theorem sortT_uniq {l m : List Tx} (hp : m.Perm l) (hs : m.Pairwise leT) : m = sortT l :=
  List.Perm.eq_of_pairwise (fun a b _ _ h1 h2 => List.le_antisymm (List.not_lt.mp h1) (List.not_lt.mp h2)) hs (sortT_sorted l) (hp.trans (sortT_perm l).symm)

-- out of the machine's sort
theorem zip_strs : ∀ {ks vs : List Value} {ss : List Tx}, StrsAre ks (ss.map toStr) → StrsAre vs (ss.map toStr) → ∀ p ∈ ks.zip vs, ∃ x t u, p = (.str (toStr x) t, .str (toStr x) u)
  | [], [], [], _, _, p, h => nomatch h
  | k :: ks, v :: vs, s :: ss, h1, h2, p, h => by
    cases h1 with
    | cons _ t h1 =>
      cases h2 with
      | cons _ u h2 =>
        rcases List.mem_cons.mp h with rfl | h
        · exact ⟨s, t, u, rfl⟩
        · exact zip_strs h1 h2 p h
theorem zip_snd {ks vs : List Value} {ss : List Tx} (h1 : StrsAre ks (ss.map toStr)) (h2 : StrsAre vs (ss.map toStr)) : (ks.zip vs).map (fun p => (strOf p.2).cps.toList) = ss := by
  have : (ks.zip vs).map (fun p => (strOf p.2).cps.toList) = ((ks.zip vs).map Prod.snd).map (fun v => (strOf v).cps.toList) := by rw [List.map_map]; rfl
  rw [this, List.map_snd_zip]
  · have h3 := h2.strs
    have : vs.map (fun v => (strOf v).cps.toList) = (vs.map strOf).map (fun x => x.cps.toList) := by rw [List.map_map]; rfl
    rw [this, h3, List.map_map]
    conv => rhs; rw [← List.map_id ss]
    exact List.map_congr_left fun x _ => by simp
  · have e1 := h1.strs
    have e2 := h2.strs
    have l1 := congrArg List.length e1
    have l2 := congrArg List.length e2
    simp at l1 l2
    omega
theorem sorted_strs_out {ks vs : List Value} {ss : List Tx} (h1 : StrsAre ks (ss.map toStr)) (h2 : StrsAre vs (ss.map toStr)) {xs : Array Keyed} (hp : xs.toList.Perm (ks.zip vs)) (hs : xs.toList.Pairwise fun p q => ¬ (strOf q.1).cps.toList < (strOf p.1).cps.toList) :
    StrsAre (xs.map (·.2)).toList ((sortT ss).map toStr) := by
  have hz := zip_strs h1 h2
  have hm : ∀ p ∈ xs.toList, ∃ x t u, p = (Value.str (toStr x) t, Value.str (toStr x) u) := fun p h => hz p (hp.mem_iff.mp h)
  have key : xs.toList.map (fun p => (strOf p.2).cps.toList) = sortT ss := by
    refine sortT_uniq ?_ ?_
    · have := hp.map (fun p => (strOf p.2).cps.toList)
      rwa [zip_snd h1 h2] at this
    · rw [List.pairwise_map]
      refine List.Pairwise.imp_of_mem (fun {p q} hpm hqm hlt => ?_) hs
      obtain ⟨x, t, u, rfl⟩ := hm p hpm
      obtain ⟨y, t', u', rfl⟩ := hm q hqm
      exact hlt
  rw [← key, Array.toList_map]
  have : ∀ (l : List Keyed), (∀ p ∈ l, ∃ x t u, p = (Value.str (toStr x) t, Value.str (toStr x) u)) → StrsAre (l.map (·.2)) ((l.map (fun p => (strOf p.2).cps.toList)).map toStr) := by
    intro l
    induction l with
    | nil => intro _; exact .nil
    | cons p l ih =>
      intro h
      obtain ⟨x, t, u, rfl⟩ := h p List.mem_cons_self
      have e : toStr ((strOf (.str (toStr x) u)).cps.toList) = toStr x := toStr_back _
      show StrsAre (.str (toStr x) u :: l.map (·.2)) (toStr ((strOf (.str (toStr x) u)).cps.toList) :: _)
      rw [e]
      exact .cons (toStr x) u (ih fun p h' => h p (List.mem_cons_of_mem _ h'))
  exact this _ hm
theorem keysOf_zip {ks vs : List Value} {ss : List Tx} (h1 : StrsAre ks (ss.map toStr)) : PyProof.Rows.KeysOf PyProof.Rows.strKind (ks.toArray.zip vs.toArray) := by
  intro p hp
  rw [ksk_zip] at hp
  obtain ⟨x, t, e⟩ := h1.all _ (List.of_mem_zip hp).1
  exact ⟨x.cps.toList, by rw [e]⟩

section
variable {W : Wd} {n : Nat} {Γ : Sc}

theorem op_sortEnd {A : Around} {P : PySem.Fin → Shared → Prop} {E : Value → Shared → Prop} {s : Shared} {a kS : Addr} {vs ks : List Value} {ss : List Tx} {e e1 : Nat} (h1 : StrsAre ks (ss.map toStr)) (h2 : StrsAre vs (ss.map toStr)) (h64 : vs.length < 64) (hka : kS ≠ a)
    (hk : s.heap.get? kS = some (seqObj "list" ks.toArray e)) (ha : s.heap.get? a = some (seqObj "list" #[] e1))
    (h : ∀ h' out c, StrsAre out ((sortT ss).map toStr) → h'.get? a = some (seqObj "list" out.toArray c) → (∀ b o, b ≠ a → b ≠ kS → s.heap.get? b = some o → h'.get? b = some o) → P (.done (.ret .none)) { s with heap := h' }) :
    wpAny (model W.prog W.w) A (ksk_end a false vs.toArray e1 (.ref kS) ks.toArray) P E s := by
  have hl1 := congrArg List.length h1.strs
  have hl2 := congrArg List.length h2.strs
  simp at hl1 hl2
  have hzs : (ks.toArray.zip vs.toArray).size = vs.length := by rw [Array.size_zip, List.size_toArray, List.size_toArray]; omega
  have tail : ∀ (st : SortSt), (arrOf st).Perm (ks.toArray.zip vs.toArray) → failedOf st = none → ((arrOf st).toList.Pairwise fun p q => ¬ (strOf q.1).cps.toList < (strOf p.1).cps.toList) → wpAny (model W.prog W.w) A (ksk_tail a false e1 (.ref kS) st) P E s := by
    intro st hp hf hs
    have hpl : (arrOf st).toList.Perm (ks.zip vs) := by rw [← ksk_zip]; exact Array.perm_iff_toList_perm.mp hp
    have hout := sorted_strs_out h1 h2 hpl hs
    have hsz : ((arrOf st).map (·.2)).size = vs.length := by rw [Array.size_map, hp.size_eq, hzs]
    have s1 := Heap.SameBut.update s.heap kS (Obj.mapSeq fun _ => (#[] : Array Value))
    have na1 : (s.heap.update kS (Obj.mapSeq fun _ => (#[] : Array Value))).get? a = some (seqObj "list" #[] e1) := (s1.2 a hka.symm).trans ha
    have s2 := Heap.SameBut.update (s.heap.update kS (Obj.mapSeq fun _ => (#[] : Array Value))) a (Obj.mapSeq fun _ => (arrOf st).map (·.2))
    unfold ksk_tail
    try dsimp only
    refine wpAny_bind (listUpdate_at hk rfl ?_ (by rw [List.size_toArray, sizeLine_eq]; omega) (Nat.zero_le _))
    refine wpAny_bind (wpAny_letGo ?_)
    refine wpAny_bind (seqEpoch_at na1 rfl ?_)
    simp only [Bool.false_eq_true, if_false]
    refine wpAny_bind (listUpdate_at na1 rfl ?_ (Nat.zero_le _) (Nat.le_trans (Nat.le_of_eq hsz) (by rw [sizeLine_eq]; omega)))
    rw [hf]
    simp only [bne_self_eq_false, Bool.false_eq_true, if_false]
    refine wpAny_pure (h _ ((arrOf st).map (·.2)).toList _ hout (by rw [Array.toArray_toList]; exact get?_update_seq na1 fun _ => (arrOf st).map (·.2)) fun b o hb1 hb2 e => s2.extBut b o hb1 (s1.extBut b o hb2 e))
  unfold ksk_end
  try dsimp only
  simp only [Bool.false_eq_true, if_false]
  by_cases h2' : vs.toArray.size < 2
  · rw [if_pos h2', if_pos h2']
    refine wpAny_bind (wpAny_pure ?_)
    rw [StateT.run_pure]
    refine wpAny_bind (wpAny_pure ?_)
    try dsimp only
    refine tail (SortSt.mk' general' (ks.toArray.zip vs.toArray) #[] 7 none) (Array.Perm.refl _) rfl ?_
    show (ks.toArray.zip vs.toArray).toList.Pairwise _
    have : (ks.toArray.zip vs.toArray).toList.length < 2 := by rw [Array.length_toList, hzs]; simpa using h2'
    cases q : (ks.toArray.zip vs.toArray).toList with
    | nil => exact .nil
    | cons x r =>
      cases r with
      | nil => exact List.pairwise_singleton _ _
      | cons y r => rw [q] at this; simp at this; omega
  · rw [if_neg h2', if_neg h2']
    rw [List.size_toArray] at h2'
    obtain ⟨v₁, v₂, rest, ek⟩ : ∃ v₁ v₂ rest, ks = v₁ :: v₂ :: rest := by
      match ks, (by omega : 2 ≤ ks.length) with
      | v₁ :: v₂ :: rest, _ => exact ⟨v₁, v₂, rest, rfl⟩
    have hkind : keyKind' ks.toArray = pure oneType' := by
      subst ek
      exact keyKind_strs h1
    rw [hkind]
    refine wpAny_bind (wpAny_pure ?_)
    refine wpAny_bind (wpAny_mono (wpS_sortRunsK (κ := PyProof.Rows.strKind) (a₀ := ks.toArray.zip vs.toArray) (st := SortSt.mk' oneType' (ks.toArray.zip vs.toArray) #[] 7 none)
      (Q := fun _ st' => (arrOf st').Perm (ks.toArray.zip vs.toArray) ∧ failedOf st' = none ∧ SortedToK PyProof.Rows.strKind (arrOf st') (ks.toArray.zip vs.toArray).size)
      strKind_oneLt (keysOf_zip h1) ⟨Array.Perm.refl _, rfl, rfl, rfl⟩ (by rw [hzs]; omega) (by rw [hzs]; exact h64) fun st' a1 a2 a3 => ⟨a1, a2, a3⟩) ?_ fun _ _ e => e)
    rintro ⟨⟨⟩, st'⟩ s' ⟨rfl, hp, hf, hs⟩
    try dsimp only
    refine tail st' hp hf ?_
    have hpl : (arrOf st').toList.Perm (ks.zip vs) := by rw [← ksk_zip]; exact Array.perm_iff_toList_perm.mp hp
    have hz := zip_strs h1 h2
    rw [List.pairwise_iff_getElem]
    intro i j hi hj hij
    have hi' : i < (arrOf st').size := by simpa using hi
    have hj' : j < (arrOf st').size := by simpa using hj
    have h3 := hs i j (Nat.le_of_lt hij) (by rw [← hp.size_eq]; exact hj')
    obtain ⟨x, t, u, ex⟩ := hz _ (hpl.mem_iff.mp (Array.getElem_mem_toList hi'))
    obtain ⟨y, t', u', ey⟩ := hz _ (hpl.mem_iff.mp (Array.getElem_mem_toList hj'))
    rw [KK_str hi' ex, KK_str hj' ey] at h3
    change decide ((toStr y).cps.toList < (toStr x).cps.toList) = false at h3
    have h3 := of_decide_eq_false h3
    simp only [Array.getElem_toList]
    rw [ex, ey]
    exact h3
end
end Mine
namespace Mine
open PySem PySem.W PyProof.Rows
section
variable {W : Wd} {n : Nat} {Γ : Sc}

/-- a function that hands back the text it is given -/
def IdFn (F : Fn) : Prop := ∀ (x : Tx) (H : Hp) (k : K), F [.str x] H k = k (.str x) H

theorem StrsAre.snoc' {y : Str} {t : Tok} : ∀ {vs : List Value} {ss : List Str}, StrsAre vs ss → StrsAre (vs ++ [.str y t]) (ss ++ [y])
  | _, _, .nil => .cons y t .nil
  | _, _, .cons z u h => .cons z u (StrsAre.snoc' h)
theorem StrsAre.get' : ∀ {vs : List Value} {ss : List Tx} {j : Nat} {v : Value}, StrsAre vs (ss.map toStr) → vs[j]? = some v → ∃ x t, ss[j]? = some x ∧ v = .str (toStr x) t
  | _ :: _, s :: ss, 0, v, h, hv => by
    cases h with
    | cons _ t h => simp at hv; subst hv; exact ⟨s, t, by simp, rfl⟩
  | _ :: _, s :: ss, j + 1, v, h, hv => by
    cases h with
    | cons _ t h => simp at hv; simpa using StrsAre.get' h hv
  | [], _, _, _, _, hv => by simp at hv
  | _ :: _, [], _, _, h, _ => nomatch h

theorem prefix_eq {α : Type} {a b : List α} (h : a <+: b) (hl : a.length = b.length) : b = a := by
  obtain ⟨c, rfl⟩ := h
  have : c = [] := by
    rw [List.length_append] at hl
    exact List.eq_nil_of_length_eq_zero (by omega)
  rw [this, List.append_nil]

open Classical in
theorem op_sortTree {A : Around} {E : Value → Shared → Prop} {s : Shared} {h₀ : Heap} {ρ : List Addr} {φ : List Loc} {l : List V} {H : Hp} {fv a : Addr} {Fid : Fn} {vs : List Value} {ss : List Tx} {e0 : Nat} {P : PySem.Fin → Shared → Prop}
    (hF : RefFn W n fv Fid) (hid : IdFn Fid) (hR : Room n A) (R : SR W φ h₀ ρ l H s) (hv : PV [a] φ h₀ ρ) (h2 : StrsAre vs (ss.map toStr)) (h64 : vs.length < 64) (ha : s.heap.get? a = some (seqObj "list" vs.toArray e0))
    (h : ∀ s' out c, SR W φ h₀ ρ l H s' → StrsAre out ((sortT ss).map toStr) → s'.heap.get? a = some (seqObj "list" out.toArray c) → P (.done (.ret .none)) s') :
    wpAny (model W.prog W.w) A (ksk_tree a (.ref fv) false) P E s := by
  have hl2 := congrArg List.length h2.strs
  simp at hl2
  have s1 := Heap.SameBut.update s.heap a (Obj.mapSeq fun _ => (#[] : Array Value))
  obtain ⟨e1, ho1⟩ : ∃ e1, (s.heap.update a (Obj.mapSeq fun _ => (#[] : Array Value))).get? a = some (seqObj "list" #[] e1) := ⟨_, get?_update_seq ha fun _ => #[]⟩
  have R1 : SR W φ h₀ ρ l H { s with heap := s.heap.update a (Obj.mapSeq fun _ => (#[] : Array Value)) } := R.priv hv fun b o hb e => s1.extBut b o (fun q => hb (by simp [q])) e
  unfold ksk_tree
  refine wpAny_bind (listItems_at ha rfl ?_)
  refine wpAny_bind (listUpdate_at ha rfl ?_ (by rw [List.size_toArray, sizeLine_eq]; omega) (Nat.zero_le _))
  refine wpAny_bind (seqEpoch_at ho1 rfl ?_)
  refine wpAny_bind (wpAny_newTuple ?_ (by show vs.length ≤ _; rw [sizeLine_eq]; omega))
  refine wpAny_bind (wpAny_newList ?_ (Nat.zero_le _))
  refine wpAny_holding ?_
  have R2 := R1.push { cls := .type "tuple", data := .seq vs.toArray } s.toks
  have hvk : PV [((s.heap.update a (Obj.mapSeq fun _ => (#[] : Array Value))).push { cls := .type "tuple", data := .seq vs.toArray }).objs.size] φ h₀ ρ := PV.fresh R2 (by simp)
  have R3 := R2.push { cls := .type "list", data := .seq #[] } s.toks
  have hne : ((s.heap.update a (Obj.mapSeq fun _ => (#[] : Array Value))).push { cls := .type "tuple", data := .seq vs.toArray }).objs.size ≠ a := by
    rw [size_push']
    have := Heap.lt_size ho1
    exact Nat.ne_of_gt (Nat.lt_succ_of_lt this)
  have ga : (((s.heap.update a (Obj.mapSeq fun _ => (#[] : Array Value))).push { cls := .type "tuple", data := .seq vs.toArray }).push { cls := .type "list", data := .seq #[] }).get? a = some (seqObj "list" #[] e1) := Heap.get?_push_of_some _ (Heap.get?_push_of_some _ ho1)
  have gk : (((s.heap.update a (Obj.mapSeq fun _ => (#[] : Array Value))).push { cls := .type "tuple", data := .seq vs.toArray }).push { cls := .type "list", data := .seq #[] }).get? ((s.heap.update a (Obj.mapSeq fun _ => (#[] : Array Value))).push { cls := .type "tuple", data := .seq vs.toArray }).objs.size = some (seqObj "list" #[] 0) := Heap.get?_push_size _ rfl
  generalize ((s.heap.update a (Obj.mapSeq fun _ => (#[] : Array Value))).push { cls := .type "tuple", data := .seq vs.toArray }).objs.size = kS at hvk hne gk
  have hpv : PV [a, kS] φ h₀ ρ := hv.app hvk
  unfold ksk_rest
  refine wpAny_bind (wpAny_rule ?_)
  first
    | rw [List.forIn_toArray]
    | (rw [← Array.forIn_toList]; simp only [List.toList_toArray])
    | rw [← Array.forIn_toList]
  refine wpAny_bind (ksk_fold (fun i s' => SR W φ h₀ ρ l H s' ∧ s'.heap.get? a = some (seqObj "list" #[] e1) ∧ ∃ kA e, s'.heap.get? kS = some (seqObj "list" kA e) ∧ StrsAre kA.toList ((ss.take i).map toStr)) vs 0 _
    ⟨R3, ga, #[], 0, gk, by simpa using StrsAre.nil⟩ ?step ?done)
  case step =>
    rintro j x s' hx ⟨R', ga', kA, e, gk', hk⟩
    simp only [Nat.zero_add] at hk ⊢
    have hj : j < vs.length := (List.getElem?_eq_some_iff.mp hx).1
    obtain ⟨t, u, hsj, rfl⟩ := StrsAre.get' h2 hx
    have hz : kA.size ≤ vs.length := by
      have h1 := congrArg List.length hk.strs
      simp at h1
      omega
    have hlive : ∀ b ∈ [a, kS], ∃ o, s'.heap.get? b = some o := by
      intro b hb
      simp only [List.mem_cons, List.not_mem_nil, or_false] at hb
      rcases hb with rfl | rfl
      · exact ⟨_, ga'⟩
      · exact ⟨_, gk'⟩
    refine wpAny_bind (wpAny_attempt (hF A _ s' _ ρ φ l H (fun v h => decide (v = .str t ∧ h = H)) _ [.str (toStr t) u] [.str t] hR (R'.guard hpv) ⟨⟨u, rfl⟩, trivial⟩ (by rw [hid]; exact decide_eq_true ⟨rfl, rfl⟩) fun v z ρ₁ H₁ s₂ p₁ R₁ r₁ h₁ => ?_))
    obtain ⟨rfl, rfl⟩ := of_decide_eq_true h₁
    have hρ : ρ₁ = ρ := prefix_eq p₁ (by rw [R₁.h.len, R'.h.len])
    subst hρ
    obtain ⟨t2, rfl⟩ := r₁
    obtain ⟨Ra, _, hkeep⟩ := guard_back R'.h hpv hlive R₁
    have ga₂ := hkeep a (by simp) _ ga'
    have gk₂ := hkeep kS (by simp) _ gk'
    try dsimp only
    have su := Heap.SameBut.update s₂.heap kS (Obj.mapSeq (·.push (.str (toStr t) t2)))
    refine wpAny_bind (listUpdate_at gk₂ rfl ?_ (by rw [sizeLine_eq]; omega) (Nat.le_trans (Nat.le_of_eq (Array.size_push ..)) (by rw [sizeLine_eq]; omega)))
    refine wpAny_pure ⟨rfl, Ra.priv hvk fun b o hb e => su.extBut b o (fun q => hb (by simp [q])) e, (su.2 a hne.symm).trans ga₂, _, _, get?_update_seq gk₂ (·.push (.str (toStr t) t2)), ?_⟩
    rw [show (kA.push (Value.str (toStr t) t2)).toList = kA.toList ++ [Value.str (toStr t) t2] by simp, List.take_add_one, hsj]
    simp only [Option.toList_some, List.map_append, List.map_cons, List.map_nil]
    exact StrsAre.snoc' hk
  case done =>
    rintro s' ⟨R', ga', kA, e, gk', hk⟩
    have hk' : StrsAre kA.toList (ss.map toStr) := by
      rw [List.take_of_length_le (by omega)] at hk
      exact hk
    try dsimp only
    refine wpAny_bind (listItems_at gk' rfl ?_)
    have gk'' : s'.heap.get? kS = some (seqObj "list" kA.toList.toArray e) := by rw [Array.toArray_toList]; exact gk'
    have := op_sortEnd (W := W) (A := A) (E := E) (P := P) (ks := kA.toList) hk' h2 h64 hne gk'' ga' fun h' out c ho hg hkp => h _ out c (R'.priv hpv fun b o hb e => hkp b o (fun q => hb (by simp [q])) (fun q => hb (by simp [q])) e) ho hg
    rw [Array.toArray_toList] at this
    exact this

theorem call_sorted_id {A : Around} {E : Value → Shared → Prop} {s : Shared} {h₀ : Heap} {ρ : List Addr} {φ : List Loc} {l : List V} {H : Hp} {fv : Addr} {Fid : Fn} {k : K} {Q : Value → Shared → Prop} {v : Value} {x : V}
    (hF : RefFn W n fv Fid) (hid : IdFn Fid) (hR : Room (n + 2) A) (R : SR W φ h₀ ρ l H s) (r : VR ρ x v) (h : oSorted x H k = true) (hP : Post W φ h₀ ρ l k Q) : wpAny (model W.prog W.w) A (call (.builtin "sorted") [v] [("key", .ref fv)]) Q E s := by
  obtain ⟨j, xs, rfl, e, h1⟩ := asList_of h
  obtain ⟨ss, rfl, h2⟩ := strsOf_of h1
  rcases rec_tt h2 with ⟨q, h3⟩ | ⟨_, h3⟩
  · have q := PySem.W.Z.blt_iff.mp q
    rw [lenL_eq] at q
    obtain ⟨adr, vs, rfl, ha, hp, hv⟩ := R.h.listAt e r
    have hl := hv.len
    rw [hl] at q
    have hS := strs_of hv
    refine call_function_entry_kw kind_sorted plain_sorted entry_sorted (ksk_s1 _ _) ?_
    unfold Builtin.«sorted»
    refine wpAny_bind (m := checkCount "sorted" 1 1 _) (wpAny_pure ?_)
    refine wpAny_bind (collect_list (PlainList.isList hp) ?_ (by rw [sizeLine_eq]; omega))
    refine wpAny_bind (wpAny_newList ?_ (by rw [sizeLine_eq]; omega))
    have hsz : ((s.heap.push (seqObj "list" #[] 0)).update s.heap.objs.size (Obj.mapSeq (· ++ vs.toArray))).objs.size = s.heap.objs.size + 1 := by
      rw [Heap.size_update, size_push']
    have hoL : (((s.heap.push (seqObj "list" #[] 0)).update s.heap.objs.size (Obj.mapSeq (· ++ vs.toArray))).push (seqObj "list" vs.toArray 0)).get? (s.heap.objs.size + 1) = some (seqObj "list" vs.toArray 0) := by
      rw [← hsz]; exact Heap.get?_push_size _ rfl
    have keep : ∀ b o, s.heap.get? b = some o → (((s.heap.push (seqObj "list" #[] 0)).update s.heap.objs.size (Obj.mapSeq (· ++ vs.toArray))).push (seqObj "list" vs.toArray 0)).get? b = some o := fun b o q => by
      have hlt : b < s.heap.objs.size := Heap.lt_size q
      rw [Heap.get?_push_ne _ _ _ (by rw [hsz]; exact Nat.ne_of_lt (Nat.lt_succ_of_lt hlt)), Heap.get?_update_ne _ _ _ _ (Nat.ne_of_lt hlt), Heap.get?_push_ne _ _ _ (Nat.ne_of_lt hlt)]
      exact q
    show wpAny _ _ _ _ _ { s with heap := ((s.heap.push (seqObj "list" #[] 0)).update s.heap.objs.size (Obj.mapSeq (· ++ vs.toArray))).push (seqObj "list" vs.toArray 0) }
    rw [hsz]
    have R₁ : SR W φ h₀ ρ l H { s with heap := ((s.heap.push (seqObj "list" #[] 0)).update s.heap.objs.size (Obj.mapSeq (· ++ vs.toArray))).push (seqObj "list" vs.toArray 0) } := R.ext keep
    have hv₁ : PV [s.heap.objs.size + 1] φ h₀ ρ := PV.fresh R (by simp)
    refine wpAny_bind (wpAny_holding (wpAny_call_entry_kw slot_list_sort ⟨_, hoL, rfl⟩ entry_list_sort ?body (ksk_l1 _ _)))
    case body =>
      show wpAny (model W.prog W.w) A.in1.in1 (Builtin.«list.sort» ⟨[.ref (s.heap.objs.size + 1)], [(Str.ofString "key", .ref fv)]⟩) _ _ _
      rw [ksk_t1]
      refine op_sortTree hF hid hR.in1.in1 R₁ hv₁ hS q hoL fun s' out c R' ho hg => ⟨_, rfl, ?_⟩
      have h3 : k (.ref H.n) ⟨H.t.put (.list ((sortT ss).map V.str)) H.n, H.n.succ⟩ = true := by
        rw [mapL_eq] at h3
        exact h3
      exact wpAny_pure ⟨_, rfl, hP _ (.ref H.n) _ _ _ (List.prefix_append _ _) (R'.take (o := .list ((sortT ss).map V.str)) hv₁ ⟨out, ⟨c, hg⟩, vrs_of_strs ho⟩) (newRef R'.h.len) h3⟩
  · cases h3

theorem Ref.sorted {e : PySem.Expr} {F : C} {x f : Str} {fv : Addr} {Fid : Fn} {p p2 kp pos : Pos} (b : BiFn Γ x (.builtin "sorted")) (hf : Γ.sc.names.lookup f = some .globalImplicit) (hg : W.mg f = some (.ref fv)) (hF : RefFn W n fv Fid) (hid : IdFn Fid) (he : Ref W (n + 2) Γ e F)
    (hd : (f == ("__debug__" : Str)) = false := by decide +kernel) (hs : ∀ (rest : List PySem.Expr) (env : Env), starEach (e :: rest) env = (false, eval e env) :: starEach rest env := by intro _ _; rfl) :
    Ref W (n + 2) Γ (.Call (.Name x p) [e] [⟨some "key", .Name f p2, kp⟩] pos) (cOp1 oSorted F) := by
  intro A E s h₀ ρ φ env l H k Q hR hE R h hP
  show wpAny _ A (do callWith pos (← eval (.Name x p) env) [] (backTo pos (starEach [e] env)) (backToKw pos (keywordEach [⟨some "key", .Name f p2, kp⟩] env))) Q E s
  refine wpAny_bind (load_bi hE R.h b.kind b.mem b.val b.nn b.nd ?_)
  have e1 : backTo pos (starEach [e] env) = [(false, eval e env)] := by rw [hs]; rfl
  rw [e1]
  refine callWith_builtin_kwB rfl rfl (evalArgs_kwB rfl (Calls.spliced_cons (he A E s h₀ ρ φ env l H _ _ hR hE R h fun v z ρ₁ H₁ s₁ p₁ R₁ r₁ h₁ => Calls.spliced_nil ?_)))
  show wpAny _ A (do let v ← (do let v ← eval (.Name f p2) env; standAt pos; pure v); return v :: (← holding [v] (evalAll []))) _ E s₁
  refine wpAny_bind (wpAny_bind (load_glob hE R₁.h hf hg hd (wpAny_bind (wpAny_standAt (wpAny_pure ?_)))))
  refine wpAny_bind (wpAny_holding (wpAny_pure (wpAny_pure ?_)))
  exact call_sorted_id hF hid hR R₁ r₁ h₁ (hP.mono p₁)
end
end Mine
namespace Mine
open PySem PySem.W PyProof.Rows
section
variable {W : Wd} {n : Nat} {Γ : Sc}

/-- a number of the module's -/
theorem Ref.gInt {x : Str} {i : Int} {pos : Pos} (hx : Γ.sc.names.lookup x = some .globalImplicit) (hg : ∃ t, W.mg x = some (.int i t)) (hd : (x == ("__debug__" : Str)) = false := by decide +kernel) : Ref W n Γ (.Name x pos) (cVal (.int i)) := by
  intro A E s h₀ ρ φ env l H k Q hR hE R h hP
  obtain ⟨t, ht⟩ := hg
  exact load_glob hE R.h hx ht hd (hP.here (x := .int i) R ⟨t, rfl⟩ h)
/-- a text of the module's -/
theorem Ref.gStr {x : Str} {y : Tx} {pos : Pos} (hx : Γ.sc.names.lookup x = some .globalImplicit) (hg : ∃ t, W.mg x = some (.str (toStr y) t)) (hd : (x == ("__debug__" : Str)) = false := by decide +kernel) : Ref W n Γ (.Name x pos) (cVal (.str y)) := by
  intro A E s h₀ ρ φ env l H k Q hR hE R h hP
  obtain ⟨t, ht⟩ := hg
  exact load_glob hE R.h hx ht hd (hP.here (x := .str y) R ⟨t, rfl⟩ h)

/-- a dict of the module's, whose items are numbers -/
structure DictG (W : Wd) (x : Str) (d : Addr) (es : List (Tx × Option Int)) : Prop where
  mg : W.mg x = some (.ref d)
  ne : (d == sysModules) = false
  at_ : ∃ kvs, W.hB.DictOf (PySem.strKind W.prog W.w) d kvs ∧ ∀ e ∈ es, match e.2 with | none => valueAt kvs (toStr e.1) = none | some i => ∃ t, valueAt kvs (toStr e.1) = some (.int i t)
theorem findG_mem {x : Tx} : ∀ {es : List (Tx × Option Int)} {r : Option Int}, findG x es = some r → (x, r) ∈ es
  | [], _, h => nomatch h
  | e :: es, r, h => by
    have h : @Bool.rec (fun _ => Option (Option Int)) (findG x es) (some e.2) (eqT e.1 x) = some r := h
    cases q : eqT e.1 x with
    | true =>
      rw [q] at h
      have := (eqT_iff _ _).mp q
      cases h
      subst this
      exact List.mem_cons_self
    | false =>
      rw [q] at h
      exact List.mem_cons_of_mem _ (findG_mem h)
theorem op_inG {x : Str} {d : Addr} {es : List (Tx × Option Int)} (D : DictG W x d es) : Op1 W n (oInG es) (fun v => compareOp .In v (.ref d)) := by
  intro A E s h₀ ρ φ l H k Q a y hR R ra h hP
  obtain ⟨t, rfl, h1⟩ := asStr_of h
  obtain ⟨u, rfl⟩ := ra
  obtain ⟨kvs, hd, hall⟩ := D.at_
  cases q : findG t es with
  | none => rw [q] at h1; exact absurd h1 Bool.false_ne_true
  | some r =>
    rw [q] at h1
    have hm := hall _ (findG_mem q)
    have hd' := hd.at (h' := s.heap) fun o e => R.h.baseS _ _ e
    refine wpAny_in_of (strKind_is W.prog W.w _ u) D.ne hd'.mapOf ?_
    have hs : (valueAt kvs (toStr t)).isSome = r.isSome := by
      cases r with
      | none => have hm : valueAt kvs (toStr t) = none := hm; rw [hm]; rfl
      | some i => obtain ⟨t', ht⟩ := (hm : ∃ t', valueAt kvs (toStr t) = some (.int i t')); rw [ht]; rfl
    rw [hs]
    exact hP.here (x := .bool r.isSome) (R.tok _) rfl h1
theorem op_getG {x : Str} {d : Addr} {es : List (Tx × Option Int)} (D : DictG W x d es) {A : Around} {E : Value → Shared → Prop} {s : Shared} {h₀ : Heap} {ρ : List Addr} {φ : List Loc} {l : List V} {H : Hp} {k : K} {Q : Value → Shared → Prop} {a : Value} {y : V} {value slice : PySem.Expr}
    (hs : ∀ o i : Value, subscripted slice false o i = operate [o, i] (getItem o i)) (R : SR W φ h₀ ρ l H s) (ra : VR ρ y a) (h : oGetG es y H k = true) (hP : Post W φ h₀ ρ l k Q) : wpAny (model W.prog W.w) A (subscriptTail value slice (.ref d) a) Q E s := by
  obtain ⟨t, rfl, h1⟩ := asStr_of h
  obtain ⟨u, rfl⟩ := ra
  obtain ⟨kvs, hd, hall⟩ := D.at_
  cases q : findG t es with
  | none => rw [q] at h1; exact absurd h1 Bool.false_ne_true
  | some r =>
    rw [q] at h1
    have hm := hall _ (findG_mem q)
    have hd' := hd.at (h' := s.heap) fun o e => R.h.baseS _ _ e
    cases r with
    | none => exact absurd h1 Bool.false_ne_true
    | some i =>
      obtain ⟨t', ht⟩ := (hm : ∃ t', valueAt kvs (toStr t) = some (.int i t'))
      exact tail_any hd'.typeIs slot_dict_getitem.lookup (wpAny_getItem_of (strKind_is W.prog W.w _ u) hd'.mapOf ht (hP.here (x := .int i) (R.tok _) ⟨t', rfl⟩ h1)) (hs _ _)
theorem RefB.inG {x : Str} {d : Addr} {es : List (Tx × Option Int)} {a : PySem.Expr} {F : C} {p2 pos : Pos} (D : DictG W x d es) (hx : Γ.sc.names.lookup x = some .globalImplicit) (ha : Ref W n Γ a F) (hd : (x == ("__debug__" : Str)) = false := by decide +kernel) (hm : behindInMarks .In (.Name x p2) = false := by with_unfolding_all rfl) :
    RefB W n Γ (.Compare a [.In] [.Name x p2] pos) (bC (cOp1 (oInG es) F)) := by
  intro A E s h₀ ρ φ env l H k Q hR hE R h hP
  refine wpAny_isTrue_Compare1 (ha A E s h₀ ρ φ env l H _ _ hR hE R h fun v y ρ₁ H₁ s₁ p₁ R₁ r₁ h₁ => ?_) hm
  refine load_glob hE R₁.h hx D.mg hd ?_
  refine op_inG (n := n) D A E s₁ h₀ ρ₁ φ l H₁ _ _ v y hR R₁ r₁ h₁ fun c z ρ₃ H₃ s₃ p₃ R₃ r₃ h₃ => ?_
  obtain ⟨b, rfl, hk⟩ := bC_k h₃
  cases r₃
  exact wpAny_truthy_bool (hP b ρ₃ H₃ s₃ (p₁.trans p₃) R₃ hk)
theorem Ref.getG {x : Str} {d : Addr} {es : List (Tx × Option Int)} {b : PySem.Expr} {F : C} {p1 pos : Pos} (D : DictG W x d es) (hx : Γ.sc.names.lookup x = some .globalImplicit) (hb : Ref W n Γ b F) (hd : (x == ("__debug__" : Str)) = false := by decide +kernel)
    (hs : ∀ o i : Value, subscripted b false o i = operate [o, i] (getItem o i) := by intro _ _; rfl) : Ref W n Γ (.Subscript (.Name x p1) b pos) (cOp1 (oGetG es) F) := by
  intro A E s h₀ ρ φ env l H k Q hR hE R h hP
  refine Subscript_ (load_glob hE R.h hx D.mg hd ?_)
  refine hb A E s h₀ ρ φ env l H _ _ hR hE R h fun w y ρ₂ H₂ s₂ p₂ R₂ r₂ h₂ => ?_
  exact op_getG D hs R₂ r₂ h₂ (hP.mono p₂)

-- replace
theorem replace_toStr (s : Tx) (x y : Nat) : Txt.replace (toStr s) (toStr [x]) (toStr [y]) = toStr (s.map fun z => if z = x then y else z) := by
  show Txt.replace (toStr s) ⟨#[x]⟩ (toStr [y]) = _
  rw [StrLaws.replace_one, split_toStr, join_toStr, splitC_join]
  simp
theorem at2_of {l : List V} {w a i : Nat} {H : Hp} {k : Nat → Bool} (h : at2 l w a i H k = true) : ∃ m vs s c, l[w]? = some (.ref m) ∧ H.t.get m = some (.list vs) ∧ vs[a]? = some (.str s) ∧ s[i]? = some c ∧ k c = true := by
  obtain ⟨v, hl, hv, h1⟩ := cVar_of h
  obtain ⟨m, vs, rfl, e, h2⟩ := asList_of h1
  rw [nthO_eq] at h2
  cases q : vs[a]? with
  | none => rw [q] at h2; exact absurd h2 Bool.false_ne_true
  | some z =>
    rw [q] at h2
    cases z with
    | str s =>
      have h2 : (match nthO s i with | some c => k c | .none => false) = true := h2
      rw [nthO_eq] at h2
      cases q2 : s[i]? with
      | none => rw [q2] at h2; exact absurd h2 Bool.false_ne_true
      | some c => rw [q2] at h2; exact ⟨m, vs, s, c, hl, e, q, q2, h2⟩
    | _ => exact absurd h2 Bool.false_ne_true
/-- ws[a][i], with the mark of the text that comes out -/
theorem eval_at2 {ws : Str} {w a i : Nat} {k1 k2 : Nat} {pw p1 p2 p3 p4 : Pos} (hw : Γ.names.lookup ws = some w) (hb : a < 4096 ∧ i < 4096) {A : Around} {E : Value → Shared → Prop} {s : Shared} {h₀ : Heap} {ρ : List Addr} {φ : List Loc} {env : Env} {l : List V} {H : Hp} {Q : Value → Shared → Prop}
    (hE : EnvOK Γ φ env) (R : SR W φ h₀ ρ l H s) {m : Nat} {vs : List V} {t : Tx} {c : Nat} (h1 : l[w]? = some (.ref m)) (h2 : H.t.get m = some (.list vs)) (h3 : vs[a]? = some (.str t)) (h4 : t[i]? = some c)
    (hQ : ∀ tk, s.toks < tk → SR W φ h₀ ρ l H { s with toks := tk + 1 } → Q (.str (toStr [c]) tk) { s with toks := tk + 1 }) (hd : (ws == ("__debug__" : Str)) = false := by decide +kernel) (hc : (ws == ("__classdict__" : Str)) = false := by decide +kernel) :
    wpAny (model W.prog W.w) A (eval (.Subscript (.Subscript (.Name ws pw) (.Constant (.int (a : Int)) k1 p1) p2) (.Constant (.int (i : Int)) k2 p3) p4) env) Q E s := by
  refine Subscript_ (Subscript_ (wpAny_Name (load_slot hE R.f hw h1 (by intro e; cases e) hc fun v hv => ?_) hd))
  obtain ⟨adr, items, rfl, ha, hp, hvs⟩ := R.h.listAt h2 hv
  refine wpAny_Constant_int ?_
  obtain ⟨v, hv1, u, rfl⟩ := hvs.get h3
  have hL := PlainList.isList hp
  refine tail_any (s := { s with toks := s.toks + 1 }) hL.typeIs slot_list_getitem.lookup (wpAny_getItem_list (s := { s with toks := s.toks + 1 }) hL (by omega) (by omega) (by simpa using hv1) ?_) (by rfl)
  refine wpAny_Constant_int ?_
  have hlt : i < t.length := (List.getElem?_eq_some_iff.mp h4).1
  refine tail_any (typeIs_str _ (toStr t) u) slot_str_getitem.lookup (PySem.P.getItem_str (by simp; omega) ?_ (hQ (s.toks + 1 + 1) (by omega) (R.tok _))) (by rfl)
  rw [seqIndex_nat (by rw [toStr_len]; exact hlt)]
  simpa using h4
theorem meth_replace : Meth "str" "replace" "str.replace" := ⟨PySem.F.plainAttrs_str, PySem.F.slot_str_replace, PySem.F.type_str_replace⟩
theorem Ref.replace {e : PySem.Expr} {F : C} {ws : Str} {w a i b j : Nat} {k1 k2 k3 k4 : Nat} {pw p1 p2 p3 p4 qw q1 q2 q3 q4 apos pos : Pos} (he : Ref W n Γ e F) (hw : Γ.names.lookup ws = some w) (hb : a < 4096 ∧ i < 4096) (hb' : b < 4096 ∧ j < 4096)
    (hbase : ∀ env : Env, attributeBase e "replace" env (eval e env) = eval e env := by intro _; rfl) (hline : (apos.endLine == pos.line) = true := by decide +kernel)
    (hd : (ws == ("__debug__" : Str)) = false := by decide +kernel) (hc : (ws == ("__classdict__" : Str)) = false := by decide +kernel) :
    Ref W n Γ (.Call (.Attribute e "replace" apos) [.Subscript (.Subscript (.Name ws pw) (.Constant (.int (a : Int)) k1 p1) p2) (.Constant (.int (i : Int)) k2 p3) p4,
      .Subscript (.Subscript (.Name ws qw) (.Constant (.int (b : Int)) k3 q1) q2) (.Constant (.int (j : Int)) k4 q3) q4] [] pos) (cReplace F w a i b j) := by
  intro A E s h₀ ρ φ env l H k Q hR hE R h hP
  refine wpAny_Call_method (T := "str") (id := "str.replace") (hbase env) (by rfl) hline meth_replace.pa meth_replace.slot meth_replace.ty (he A E s h₀ ρ φ env l H _ _ hR hE R h fun v x ρ₁ H₁ s₁ p₁ R₁ r₁ h₁ => ?_)
  obtain ⟨t, rfl, h2⟩ := asStr_of h₁
  obtain ⟨u, rfl⟩ := r₁
  obtain ⟨m1, vs1, t1, x, a1, a2, a3, a4, h3⟩ := at2_of h2
  obtain ⟨m2, vs2, t2, y, b1, b2, b3, b4, h4⟩ := at2_of h3
  obtain ⟨hz, h5⟩ := chk_of h4
  have hz := PySem.W.Z.ble_iff.mp hz
  rw [lenL_eq] at hz
  refine ⟨typeIs_str _ _ _, fun a e => (nomatch e), ?_⟩
  refine Calls.callWith_builtin rfl (Calls.evalArgs_plain (Calls.spliced_cons (eval_at2 hw hb hE R₁ a1 a2 a3 a4 (fun tk htk R₂ => ?_) hd hc)))
  refine Calls.spliced_cons (eval_at2 hw hb' hE R₂ b1 b2 b3 b4 (fun tk' htk' R₃ => Calls.spliced_nil ?_) hd hc)
  have htk' : tk + 1 < tk' := htk'
  rcases rec_tt h5 with ⟨_, h6⟩ | ⟨hxy, h6⟩
  · cases h6
  · have hne : x ≠ y := fun e => by rw [e, Nat.beq_refl] at hxy; cases hxy
    have h7 : k (.str (t.map fun z => if z = x then y else z)) H₁ = true := by
      rw [mapL_eq] at h6
      have e : (fun z => @Bool.rec (fun _ => Nat) z y (Nat.beq z x)) = fun z => if z = x then y else z := by
        funext z
        by_cases q : z = x
        · subst q; rw [if_pos rfl, Nat.beq_refl]
        · rw [if_neg q]
          cases q2 : Nat.beq z x with
          | true => exact absurd (Nat.eq_of_beq_eq_true q2) q
          | false => rfl
      rw [e] at h6; exact h6
    refine SC.replace (u := tk) (v := tk') (by show @Ne Nat _ _; omega) (by show @Ne Nat _ _; omega) (by show @Ne Nat _ _; omega) (beq_eq_false_iff_ne.mpr fun e => hne (by simpa [toStr] using e)) (by rw [toStr_len, toStr_len]; simp; omega) fun t' kk => ?_
    rw [replace_toStr]
    exact (hP.mono p₁).here (x := .str _) (R₃.tok kk) ⟨t', rfl⟩ h7
end
end Mine
namespace Mine
open PySem PySem.W PyProof.Rows
-- the part of the heap that the law reaches, written out by the head of the nest form and by nothing else here
section
local macro_rules | `(tactic| o_head $_) => `(tactic| assumption)
theorem kfrag (h : PySem.Challenge.rw_yj0020_01.row.Holds) : PySem.Challenge.rw_yj0020_01.row.Holds := by k_head
end
end Mine
-- the accumulator's methods
namespace Mine
noncomputable section
def asPile (a : V) (h : Hp) (k : Nat → Int → List V → Bool) : Bool := asAcc a h fun dk vs => match h.t.get dk with | some (.inst f) => k dk f vs | _ => false
def fPart : Fn := fun l h k => match l with
  | [a] => asAcc a h fun _ vs => chk (Nat.ble (lenL vs) 4096) (k (.int (Int.ofNat (lenL vs))) h)
  | _ => false
def fPop : Fn := fun l h k => match l with
  | [a] => asPile a h fun f _ vs => chk (Nat.ble (lenL vs) 4096) <| match lastO vs with
    | .none => newO (.tup [.str [], .str []]) h k
    | some v => setO a (.acc f (takeL vs (lenL vs - 1))) h fun h => k v h
  | _ => false
/-- a method of the accumulator's -/
def cMeth (f : Fn) (F : C) (Fs : List C) : C := fun l h k => F l h fun a h => asPile a h fun _ _ _ => evs Fs l h fun vs h => f (a :: vs) h k
/-- self.append(x), self[i:], self[i:] = [] -/
def cAppA (F G : C) : C := fun l h k => F l h fun a h => asPile a h fun _ _ _ => G l h fun t h => asAcc a h fun f vs => chk (Nat.ble (lenL vs) 4096) <| setO a (.acc f (appL vs [t])) h fun h => k .none h
def cFromA (F G : C) : C := fun l h k => F l h fun a h => G l h fun b h => asAcc a h fun f vs => asNat b fun i => chk (Nat.blt i 4096) <| chk (Nat.ble (lenL vs) 4096) <| newO (.list (dropL vs i)) h k
def sCutA (F G : C) : S := fun l h kn _ _ => newO (.list []) h fun e h => F l h fun a h => G l h fun b h => asList e h fun es => asAcc a h fun f vs => chk (Nat.beq (lenL es) 0) <| asNat b fun i => chk (Nat.blt i 4096) <| chk (Nat.ble (lenL vs) 4096) <| setO a (.acc f (takeL vs i)) h fun h => kn l h
def fPush : Fn := fun l h k => chk (Nat.beq (lenL l) 3) (fDef 0 (sBlock [sExpr (cAppA (cVar 0) (cTup [cVar 1, cVar 2]))]) l h k)
def fPopFrom : Fn := fun l h k => chk (Nat.beq (lenL l) 2) (fDef 1 (sBlock [sSet 2 (cFromA (cVar 0) (cVar 1)), sCutA (cVar 0) (cVar 1), sRet (cVar 2)]) l h k)
/-- len(self): the signs of all pieces and the first size -/
def sumT (h : Hp) (vs : List V) : Int → (Int → Bool) → Bool :=
  @List.rec V (fun _ => Int → (Int → Bool) → Bool) (fun a k => k a) (fun x _ ih a k => asTup x h fun ws => match ws with
    | [.str s, .str t] => chk (Nat.ble (lenL s) 4096) (chk (Nat.ble (lenL t) 4096) (ih (a + Int.ofNat (lenL s + lenL t)) k))
    | _ => false) vs
def lenP (a : V) (h : Hp) (k : Nat → Bool) : Bool := asPile a h fun _ f vs => match h.t.get 0 with
  | some .tab => sumT h vs f fun i => asNat (.int i) fun n => chk (Nat.blt n 4294967296) (k n)
  | _ => false
def oLenP : O1 := fun a h k => lenP a h fun n => k (.int (Int.ofNat n)) h
end
end Mine
namespace Mine
open PySem PySem.W PyProof.Rows PySem.Builtin

section
variable {prog : Program} {w : World} {A : Around} {E : Value → Shared → Prop} {h : Heap} {g : Array GenState} {d : Drawn} {t : Nat} {os : OsState} {x C : Addr} {Q : PySem.Fin → Shared → Prop}

theorem md_get_pop (hI : Looks (model prog w) h (isInstance (.ref x) (.type "list")) true)
    (hq : Q (.done (.ret (.ref h.objs.size))) ⟨h.push { cls := .type "builtin_function_or_method", data := .fields #[.builtin "list.pop", .ref x] }, g, d, t, os⟩) :
    wpAny (model prog w) A (Builtin.«method_descriptor.__get__» ⟨[.builtin "list.pop", .ref x, .ref C], []⟩) Q E ⟨h, g, d, t, os⟩ := by
  have e : ".".intercalate ("list.pop".cutAt '.').dropLast = "list" := by decide +kernel
  unfold Builtin.«method_descriptor.__get__»
  repeat (first | (rw [e]; refine Looks.at hI ?_) | lk)
  exact hq
theorem wd_get_len (hI : Looks (model prog w) h (isInstance (.ref x) (.type "list")) true)
    (hq : Q (.done (.ret (.ref h.objs.size))) ⟨h.push { cls := .type "method-wrapper", data := .fields #[.builtin "list.__len__", .ref x] }, g, d, t, os⟩) :
    wpAny (model prog w) A (Builtin.«wrapper_descriptor.__get__» ⟨[.builtin "list.__len__", .ref x, .ref C], []⟩) Q E ⟨h, g, d, t, os⟩ := by
  have e : ".".intercalate ("list.__len__".cutAt '.').dropLast = "list" := by decide +kernel
  unfold Builtin.«wrapper_descriptor.__get__»
  repeat (first | (rw [e]; refine Looks.at hI ?_) | lk)
  exact hq
theorem wd_get_init (hI : Looks (model prog w) h (isInstance (.ref x) (.type "list")) true)
    (hq : Q (.done (.ret (.ref h.objs.size))) ⟨h.push { cls := .type "method-wrapper", data := .fields #[.builtin "list.__init__", .ref x] }, g, d, t, os⟩) :
    wpAny (model prog w) A (Builtin.«wrapper_descriptor.__get__» ⟨[.builtin "list.__init__", .ref x, .ref C], []⟩) Q E ⟨h, g, d, t, os⟩ := by
  have e : ".".intercalate ("list.__init__".cutAt '.').dropLast = "list" := by decide +kernel
  unfold Builtin.«wrapper_descriptor.__get__»
  repeat (first | (rw [e]; refine Looks.at hI ?_) | lk)
  exact hq
theorem slot_md_get : Slot "method_descriptor" "__get__" "method_descriptor.__get__" := .of (owner := "method_descriptor") (n := "__get__") (by rw [typeLookup_type, builtinLookup_eq_fast]; kernel_rfl) (by decide +kernel) (by decide +kernel) (by decide +kernel)
  (by first | exact .inl (by decide +kernel) | exact .inr (by decide +kernel)) (by rw [isSubtype_type]; kernel_rfl)
theorem entry_md_get : entryFor table "method_descriptor.__get__" = some Builtin.«method_descriptor.__get__» := entryFor_of_tree (by kernel_rfl)
theorem args_md_get (a b c : Value) : argsOk "method_descriptor.__get__" ⟨[a, b, c], []⟩ := by unfold argsOk; kernel_rfl
theorem slot_wd_get : Slot "wrapper_descriptor" "__get__" "wrapper_descriptor.__get__" := .of (owner := "wrapper_descriptor") (n := "__get__") (by rw [typeLookup_type, builtinLookup_eq_fast]; kernel_rfl) (by decide +kernel) (by decide +kernel) (by decide +kernel)
  (by first | exact .inl (by decide +kernel) | exact .inr (by decide +kernel)) (by rw [isSubtype_type]; kernel_rfl)
theorem entry_wd_get : entryFor table "wrapper_descriptor.__get__" = some Builtin.«wrapper_descriptor.__get__» := entryFor_of_tree (by kernel_rfl)
theorem args_wd_get (a b c : Value) : argsOk "wrapper_descriptor.__get__" ⟨[a, b, c], []⟩ := by unfold argsOk; kernel_rfl
theorem type_list_init' : typeOf (.builtin "list.__init__") = pure (.type "wrapper_descriptor") := by show builtinType _ = _; rw [builtinType_eq_fast]; kernel_rfl
theorem type_list_len' : typeOf (.builtin "list.__len__") = pure (.type "wrapper_descriptor") := by show builtinType _ = _; rw [builtinType_eq_fast]; kernel_rfl

theorem super_ga {so D f : Addr} {l₀ l : List Value} {K : Frag} {name : Str} {tk : Tok} {id T gid bt : String} {B : Builtin}
    (hso : h.get? so = some { cls := .type "super", dict := none, data := .fields #[.ref D, .ref x, .ref C], slots := #[] }) (hno : Looks (model prog w) h (opaqueClassAbove (.ref C)) none)
    (hC : Looks (model prog w) h (mroOf (.ref C)) l₀) (hl : (l₀.dropWhile (· != .ref D)).drop 1 = l) (X : K.In h)
    (hf : alongIn K name l = some (some (.builtin id))) (hT : typeOf (.builtin id) = pure (.type T)) (slot : Slot T "__get__" gid) (entry : entryFor table gid = some B) (args : ∀ a b c : Value, argsOk gid ⟨[a, b, c], []⟩) (hxC : x ≠ C) (hn : (name == ("__class__" : Str)) = false)
    (hB : ∀ (A : Around) (E : Value → Shared → Prop) (g : Array GenState) (d : Drawn) (t : Nat) (os : OsState) (Q : PySem.Fin → Shared → Prop), Q (.done (.ret (.ref h.objs.size))) ⟨h.push { cls := .type bt, data := .fields #[.builtin id, .ref x] }, g, d, t, os⟩ →
      wpAny (model prog w) A (B ⟨[.builtin id, .ref x, .ref C], []⟩) Q E ⟨h, g, d, t, os⟩)
    (hq : Q (.done (.ret (.ref h.objs.size))) ⟨h.push { cls := .type bt, data := .fields #[.builtin id, .ref x] }, g, d, t, os⟩) :
    wpAny (model prog w) A (Builtin.«super.__getattribute__» ⟨[.ref so, .str name tk], []⟩) Q E ⟨h, g, d, t, os⟩ := by
  have hlk := slot.lookup
  have hne : (Value.ref x == Value.ref C) = false := by simp [hxC]
  have hTf : (⟨h, g, d, t, os⟩ : Shared).TypeIs (.builtin id) T := hT
  have hdt : ({ cls := .type "super", dict := none, data := .fields #[.ref D, .ref x, .ref C], slots := #[] } : Obj).data = .fields #[.ref D, .ref x, .ref C] := rfl
  have f0 : (#[.ref D, .ref x, .ref C] : Array Value)[0]? = some (.ref D) := rfl
  have f1 : (#[.ref D, .ref x, .ref C] : Array Value)[1]? = some (.ref x) := rfl
  have f2 : (#[.ref D, .ref x, .ref C] : Array Value)[2]? = some (.ref C) := rfl
  unfold Builtin.«super.__getattribute__»
  repeat (first
    | (with_reducible refine wpAny_field hso hdt f0 ?_) | (with_reducible refine wpAny_field hso hdt f1 ?_) | (with_reducible refine wpAny_field hso hdt f2 ?_)
    | (with_reducible refine ks_wpAny_notOpaque hno ?_)
    | (with_reducible refine Looks.at hC ?_; rw [hl])
    | (refine ks_forIn_along X (fun _ _ => rfl) rfl ?_ hf)
    | (with_reducible refine wpAny_of_eq hT ?_)
    | (with_reducible refine wpAny_typeOf hTf ?_)
    | (with_reducible refine wpAny_of_eq hlk ?_)
    | (with_reducible refine wpAny_call_entry slot hTf entry ?_ (args _ _ _))
    | (refine hB _ _ _ _ _ _ _ ?_)
    | (with_reducible refine ⟨_, rfl, ?_⟩)
    | (simp only [hn, hne, Bool.or_false, Bool.false_eq_true, if_false])
    | wp_step
    | dsimp only)
  all_goals exact hq
end
end Mine
namespace Mine
open PySem PySem.W PyProof.Rows

/-- where a method stands -/
structure FnAt' (W : Wd) (fv : Addr) (fd : FuncData) : Prop where
  obj : ∃ o, W.hB.get? fv = some o ∧ o.data = .func fd
  code : W.hB.CodeRec fd.code fd.qualname
  glob : fd.globals = mainGlobals
  bi : fd.builtins = builtinsNs

section
variable {W : Wd} {n : Nat} {Γ : Sc}

/-- a function whose names are all its frame's, entered with its own activation in sight -/
theorem RefFn.ofAt {fv : Addr} {fd : FuncData} {body : List Stmt} {F : Fn} {ns ps : List Str} {m : Nat} (hA : FnAt' W fv fd) (hbody : fd.body = .stmts body) (hsc : fd.scope = Γ.sc) (hkind : Γ.sc.kind = .function) (hnd : ns.Nodup)
    (hall : ∀ x ∈ ns, Γ.sc.names.lookup x = some .local) (hslot : ∀ p ∈ Γ.names, ns[p.2]? = some p.1) (hcell : ∀ x ∈ Γ.sc.names, x.2 ≠ .cell) (hps : ps = ns.take ps.length) (hm : ns.length = ps.length + m)
    (hbind : ∀ (s : Shared) (vals : List Value), (∀ b o, W.hB.get? b = some o → s.heap.get? b = some o) → vals.length = ps.length → BindsTo s fd ⟨vals, []⟩ (ps.zip vals))
    (hb : ∀ (A : Around) (E : Value → Shared → Prop) (s : Shared) (h₀ : Heap) (ρ : List Addr) (φ : List Loc) (env : Env) (l : List V) (H : Hp) (k : K) (Q : Value → Shared → Prop),
      Room n A → EnvOK Γ φ env → env.func = some fv → env.code = fd.code → env.cells = fd.closure → SR W φ h₀ ρ l H s → F l H k = true → (∀ (v : Value) (x : V) (ρ' : List Addr) (l' : List V) (H' : Hp) (s' : Shared), ρ <+: ρ' → SR W φ h₀ ρ' l' H' s' → VR ρ' x v → k x H' = true → Q v s') →
      PySem.wpAt (model W.prog W.w) A (.func body env) (execs body env) (fun f s' => Q (match f with | .ret v => v | _ => .none) s') E s)
    (hco : fd.scope.isCoroutine = false) (hgen : fd.scope.isGenerator = false) : RefFn W (n + 1) fv (fun args h k => chk (Nat.beq (lenL args) ps.length) (F (appL args (unbs m)) h k)) := by
  intro A E s h₀ ρ φ l H k Q vals xs hR R r h hP
  obtain ⟨hc, h⟩ := chk_of h
  have hlen := Nat.eq_of_beq_eq_true hc
  rw [lenL_eq] at hlen
  have hvl : vals.length = ps.length := by rw [← r.len]; exact hlen
  obtain ⟨o, ho, hod⟩ := hA.obj
  have hk : fd.scope.kind = .function := by rw [hsc]; exact hkind
  have hpin : ∀ x ∈ ps, x ∈ ns := fun x hx => by rw [hps] at hx; exact List.mem_of_mem_take hx
  have hpnd : ps.Nodup := by rw [hps]; exact List.Nodup.sublist (List.take_sublist _ _) hnd
  have hfst : (ps.zip vals).map (·.1) = ps := by rw [List.map_fst_zip]; omega
  refine wpAny_call (ks_codeAny_call_defAt hR.depth (R.h.baseS _ _ ho) hod (R.h.bok.nolimit.keeps R.h.baseS) (hA.code.keeps R.h.baseS) hbody (hbind s vals R.h.baseS hvl) (by rw [hsc]; exact hcell) (fun p hp => ?_) (fun h₁ hns hkeep => ?_) hco hgen hk)
  · rw [hsc]; exact hall _ (hpin _ (by rw [← hfst]; exact List.mem_map_of_mem hp))
  · have RH := R.h.called (s₁ := { s with heap := h₁, toks := s.toks + (ps.zip vals).length }) hkeep rfl rfl
    have fresh : s.heap.objs.size ∉ ρ ∧ (mask s.heap ρ).get? s.heap.objs.size = none := by
      have h1 := PV.fresh R (pv := [s.heap.objs.size]) (by simp) s.heap.objs.size (by simp)
      refine ⟨h1.1, ?_⟩
      cases e : (mask s.heap ρ).get? s.heap.objs.size with
      | none => rfl
      | some o' => exact absurd (Heap.lt_size (mask_sub e).1) (Nat.lt_irrefl _)
    have FRn : FR (ns.map (Loc.var s.heap.objs.size)) (mask s.heap ρ) ρ (appL xs (unbs m)) { s with heap := h₁, toks := s.toks + (ps.zip vals).length } := by
      refine ⟨by rw [appL_eq, unbs_eq]; simp; omega, fun lc h => ?_, fun i lc x e1 e2 hx => ?_, ?_, fun lc h => ?_, fun lc h => ?_⟩
      · obtain ⟨x, hx, rfl⟩ := List.mem_map.mp h
        exact ⟨_, hns⟩
      · rw [appL_eq, unbs_eq] at e2
        by_cases q : i < xs.length
        · rw [List.getElem?_append_left q] at e2
          obtain ⟨v, hv1, hv2⟩ := r.get e2
          rw [List.getElem?_map] at e1
          cases hn : ns[i]? with
          | none => rw [hn] at e1; cases e1
          | some y =>
            rw [hn] at e1
            cases e1
            have hpi : ps[i]? = some y := by rw [hps, List.getElem?_take_of_lt (by omega)]; exact hn
            refine ⟨v, ⟨_, hns, ?_⟩, hv2⟩
            have hm1 : (y, v) ∈ ps.zip vals := List.mem_of_getElem? (i := i) (by rw [List.getElem?_zip_eq_some]; exact ⟨hpi, hv1⟩)
            have hnd' : (((ps.zip vals).reverse).map (·.1)).Nodup := by rw [List.map_reverse, hfst]; exact (List.reverse_perm _).nodup_iff.mpr hpnd
            exact lookup_of_nodup hnd' (p := (y, v)) (List.mem_reverse.mpr hm1)
        · rw [List.getElem?_append_right (Nat.le_of_not_lt q), List.getElem?_replicate] at e2
          split at e2
          · cases e2; exact absurd rfl hx
          · cases e2
      · rw [List.pairwise_map]
        exact List.Pairwise.imp (fun hne => .inr hne) hnd
      · obtain ⟨x, hx, rfl⟩ := List.mem_map.mp h
        exact fresh.1
      · obtain ⟨x, hx, rfl⟩ := List.mem_map.mp h
        exact fresh.2
    have hEn : EnvOK Γ (ns.map (Loc.var s.heap.objs.size)) (callEnv fd s.heap.objs.size fv) := by
      refine ⟨hsc, hkind, hA.glob, hA.bi, fun x i hx => ?_⟩
      have hn : ns[i]? = some x := hslot (x, i) (mem_of_lookup hx)
      exact ⟨.var s.heap.objs.size x, by rw [List.getElem?_map, hn]; rfl, .inl ⟨hall x (List.mem_of_getElem? hn), rfl⟩⟩
    exact hb (A.deeper (callEnv fd s.heap.objs.size fv)) _ _ (mask s.heap ρ) ρ _ _ (appL xs (unbs m)) H k Q hR.deeper hEn rfl rfl rfl ⟨RH, FRn⟩ h fun v x ρ' l' H' s' p R' r' h' => hP v x ρ' H' s' p (R.back R'.h p) r' h'
end
end Mine
namespace Mine
open PySem PySem.W PyProof.Rows PySem.Builtin

/-- what is known of an accumulator's object -/
structure AccO (h : Heap) (x dx : Addr) (items : Array Value) : Prop where
  obj : ∃ n sl, h.get? x = some ⟨.ref 125, some dx, .seq items n, sl⟩

section
variable {M : Model} {h : Heap} {x dx : Addr} {items : Array Value} {P : Params}
theorem AccO.type (a : AccO h x dx items) : Looks M h (typeOf (.ref x)) (.ref 125) := by
  obtain ⟨n, sl, e⟩ := a.obj
  exact (Looks.ld e).andThen .now
theorem AccO.inst (a : AccO h x dx items) (X : (kfrag.heap_1 P).In h) {base : Value} {r : Bool} (e : mroIn (kfrag.heap_1 P) 125 base = some r) : Looks M h (isInstance (.ref x) base) r := a.type.andThen (looks_mroIn X e)
theorem AccO.notType (a : AccO h x dx items) : Looks M h (isType (.ref x)) false := by
  intro A Q E s k q
  obtain ⟨n, sl, e⟩ := a.obj
  obtain ⟨hh, g, d, t, os⟩ := s
  exact ks_wpAny_isType_inst (k _ _ e) (fun c => by intro h; cases h) q
theorem accCls (X : (kfrag.heap_1 P).In h) : ∃ cd : ClassData, Looks M h (classData 125) cd ∧ cd.qualname = (Str.ofString "_Accumulator") := ⟨_, looks_clsIn X rfl, rfl⟩
theorem accMeta (X : (kfrag.heap_1 P).In h) : Looks M h (typeOf (.ref 125)) (.type "type") := looks_typeIn X rfl
theorem acc_list : mroIn (kfrag.heap_1 P) 125 (.type "list") = some true := rfl
theorem acc_module : mroIn (kfrag.heap_1 P) 125 (.type "module") = some false := rfl
end

section
variable {prog : Program} {w : World} {A : Around} {E : Value → Shared → Prop} {h : Heap} {g : Array GenState} {d : Drawn} {t : Nat} {os : OsState} {x dx : Addr} {items : Array Value} {P : Params} {Q : Unit → Shared → Prop}
theorem cb_pop (X : (kfrag.heap_1 P).In h) (a : AccO h x dx items) (hq : Q () ⟨h, g, d, t, os⟩) : wpAny (model prog w) A (checkBoundCall "list.pop" ⟨[.ref x], []⟩) Q E ⟨h, g, d, t, os⟩ := by
  have h1 := a.inst (M := model prog w) X acc_module
  have h2 := a.notType (M := model prog w)
  have h3 := a.type (M := model prog w)
  obtain ⟨cd, h4, hcd⟩ := accCls (M := model prog w) X
  have h5 := accMeta (M := model prog w) X
  have e : toString cd.qualname.toString ++ toString "." ++ toString (Bind.lastOf "list.pop") = "_Accumulator.pop" := by rw [hcd]; decide +kernel
  have e2 : Bind.checkArgs "list.pop" ⟨.positional, "_Accumulator.pop", "pop", .self, [⟨"index", .posOnly, false⟩]⟩ ⟨[.ref x], []⟩ = pure () := by kernel_rfl
  unfold checkBoundCall
  repeat (first | (rw [e]; refine wpAny_of_eq e2 ?_) | lk)
  exact hq
end
end Mine
namespace Mine
open PySem PySem.W PyProof.Rows PySem.Builtin

section
variable {prog : Program} {w : World} {A : Around} {E : Value → Shared → Prop} {h : Heap} {g : Array GenState} {d : Drawn} {t : Nat} {os : OsState} {x C : Addr}

/-- super().name, where the name is a builtin's -/
theorem getMethod_superb {so D : Addr} {l₀ l : List Value} {K : Frag} {name : Str} {pl : Sem Bool} {id T gid bt : String} {B : Builtin} {Q : Value × List Value → Shared → Prop}
    (hso : h.get? so = some { cls := .type "super", dict := none, data := .fields #[.ref D, .ref x, .ref C], slots := #[] }) (hno : Looks (model prog w) h (opaqueClassAbove (.ref C)) none)
    (hC : Looks (model prog w) h (mroOf (.ref C)) l₀) (hl : (l₀.dropWhile (· != .ref D)).drop 1 = l) (X : K.In h)
    (hf : alongIn K name l = some (some (.builtin id))) (hT : typeOf (.builtin id) = pure (.type T)) (slot : Slot T "__get__" gid) (entry : entryFor table gid = some B) (args : ∀ a b c : Value, argsOk gid ⟨[a, b, c], []⟩) (hxC : x ≠ C) (hn : (name == ("__class__" : Str)) = false)
    (hB : ∀ (A : Around) (E : Value → Shared → Prop) (g : Array GenState) (d : Drawn) (t : Nat) (os : OsState) (Q : PySem.Fin → Shared → Prop), Q (.done (.ret (.ref h.objs.size))) ⟨h.push { cls := .type bt, data := .fields #[.builtin id, .ref x] }, g, d, t, os⟩ →
      wpAny (model prog w) A (B ⟨[.builtin id, .ref x, .ref C], []⟩) Q E ⟨h, g, d, t, os⟩)
    (hq : Q (.ref h.objs.size, []) ⟨h.push { cls := .type bt, data := .fields #[.builtin id, .ref x] }, g, d, t + 1, os⟩) :
    wpAny (model prog w) A (getMethod (.ref so) name pl) Q E ⟨h, g, d, t, os⟩ := by
  have hlk := PySem.F.ks_slot_super_ga.lookup
  have hcan := PySem.F.ks_canon_super_ga
  have hTs : ∀ t', (⟨h, g, d, t', os⟩ : Shared).TypeIs (.ref so) "super" := fun _ => ⟨_, hso, rfl⟩
  unfold getMethod
  refine wpAny_bind (wpAny_specialOf (hTs _) hlk ?_)
  show wpAny _ _ (if (Manifest.canonical "super.__getattribute__" != "object.__getattribute__") = true then _ else _) _ _ _
  rw [if_pos hcan]
  unfold getAttr getAttrBy
  refine wpAny_bind (wpAny_bind (wpAny_mkText (wpAny_holding (wpAny_bind (wpAny_typeOf (hTs _) (wpAny_bind (wpAny_of_eq hlk ?_)))))))
  show wpAny _ _ (getAttrByItsOwn (.ref so) (.str name t) (.type "super") (.builtin "super.__getattribute__") true false) _ _ _
  unfold getAttrByItsOwn hookBefore callGetattribute boundAndCalled
  refine wpAny_bind (wpAny_of_eq (show (if onTheHeap (.type "super") then typeLookup (.type "super") "__getattr__" else pure none) = pure none from rfl) ?_)
  refine wpAny_bind (wpAny_attempt (wpAny_holding ?_))
  show wpAny _ _ (bindSpecial (.builtin "super.__getattribute__") (.ref so) >>= _) _ _ _
  refine wpAny_bind (wpAny_of_eq (PySem.F.ks_slot_super_ga.bind _) ?_)
  refine wpAny_mono (Q := fun v s' => v = .ref h.objs.size ∧ s' = ⟨h.push { cls := .type bt, data := .fields #[.builtin id, .ref x] }, g, d, t + 1, os⟩) (E := fun _ _ => False)
    (wpAny_call_entry PySem.F.ks_slot_super_ga (hTs _) PySem.F.ks_entry_super_ga (super_ga (f := so) hso hno hC hl X hf hT slot entry args hxC hn hB ⟨_, rfl, rfl, rfl⟩) (PySem.F.ks_gaArgs_super _ _)) (fun v s' hv => ?_) fun _ _ z => z.elim
  obtain ⟨rfl, rfl⟩ := hv
  exact wpAny_pure (wpAny_pure hq)

/-- a builtin bound to an object is called -/
theorem call_bound {m : Addr} {bt id : String} {B : Builtin} {rest : List Value} {Q : Value → Shared → Prop} {s : Shared} {S : PySem.Spec} (hm : s.heap.get? m = some { cls := .type bt, dict := none, data := .fields #[.builtin id, .ref x], slots := #[] })
    (hbt : (((Value.type bt == .type "method") || (Value.type bt == .type "builtin_function_or_method") || (Value.type bt == .type "method-wrapper")) = true) ∧ (Value.type bt != .type "method") = true)
    (hck : ∀ {A : Around} {E : Value → Shared → Prop} {Q : Unit → Shared → Prop}, Q () s → wpAny (model prog w) A (checkBoundCall id ⟨.ref x :: rest, []⟩) Q E s) (hpl : plainId id = true) (entry : entryFor table id = some B)
    (hB : Meets (B ⟨.ref x :: rest, []⟩) S) (hS : ∀ A : Around, S A (wants Q E) s) : wpAny (model prog w) A (call (.ref m) rest) Q E s := by
  refine wpAny_call (codeAny_of_tree ?_)
  show wpAny _ A.in1 (callAny (.ref m) ⟨rest, []⟩) _ _ _
  unfold callAny
  refine wpAny_bind (wpAny_load hm ?_)
  simp only [hbt.1, hbt.2, if_true]
  refine wpAny_bind (hck ?_)
  refine wpAny_pure ⟨plainId_quiet hpl _, codeAny_builtin entry ?_⟩
  rw [Around.under_plainId hpl _]
  exact hB prog w A (wants Q E) s (hS _)
end

structure AccF (W : Wd) (P : Params) : Prop where
  X : (kfrag.heap_1 P).In W.hB
  cls : W.accC = (125 : Nat)
  file : ((W.prog.main.file : Str) == Str.ofString "/claim/cut.py") = true
  top : (W.prog.main.scope.names.lookup ("super" : Str)).isSome = false
  sup : W.mg "super" = none

section
variable {W : Wd} {n : Nat} {Γ : Sc} {P : Params}

theorem HR.accAt {h₀ : Heap} {ρ : List Addr} {H : Hp} {s : Shared} {j dk : Nat} {vs : List V} {v : Value} (R : HR W h₀ ρ H s) (e : H.t.get j = some (.acc dk vs)) (r : VR ρ (.ref j) v) :
    ∃ adr items n dx sl, v = .ref adr ∧ ρ[j]? = some adr ∧ s.heap.get? adr = some ⟨.ref W.accC, some dx, .seq (List.toArray items) n, sl⟩ ∧ VRs ρ vs items ∧ ρ[dk]? = some dx := by
  obtain ⟨a, ha, items, n, dx, sl, h1, h2, h3⟩ := R.obj j _ e
  obtain ⟨b, hb, rfl⟩ : ∃ b, ρ[j]? = some b ∧ v = .ref b := r
  rw [ha] at hb
  cases hb
  exact ⟨a, items, n, dx, sl, rfl, ha, h1, h2, h3⟩
theorem AccF.at_ (af : AccF W P) {h₀ : Heap} {ρ : List Addr} {H : Hp} {s : Shared} (R : HR W h₀ ρ H s) : (kfrag.heap_1 P).In s.heap := af.X.keeps R.baseS

theorem acc_mro (af : AccF W P) : mroIn (kfrag.heap_1 P) 125 (.ref 125) = some true := rfl
theorem super_baseG (af : AccF W P) {φ : List Loc} {h₀ : Heap} {ρ : List Addr} {l : List V} {H : Hp} {s : Shared} {env : Env} {A : Around} {E : Value → Shared → Prop} {body : List Stmt} {p0 p1 : Pos} {attr : Str} {whole : Sem Value}
    {fv cda : Nat} {fd : FuncData} {ar : Arg} {vs : Array Value} {tf : Tok} {oc ccl : Value} {od cdd : Option Addr} {osl ccs : Array (Option Value)} {i : Nat} {y : V} {Good : Addr → List Value → Nat → Addr → Array (Option Value) → Prop} {Q : Value → Shared → Prop}
    (hE : EnvOK Γ φ env) (R : SR W φ h₀ ρ l H s)
    (hfu : env.func = some fv) (hf : (kfrag.heap_1 P).lookup fv = some ⟨oc, od, .func fd, osl⟩) (hp : (fd.params.posonlyargs ++ fd.params.args).head? = some ar)
    (hco : env.code = .ref cda) (hcode : (kfrag.heap_1 P).lookup cda = some ⟨ccl, cdd, .fields vs, ccs⟩) (hvs : vs[2]? = some (.str (Str.ofString "/claim/cut.py") tf))
    (hcell : env.cells = [(("__class__" : Str), (49 : Nat))]) (hks : Γ.sc.names.lookup ("super" : Str) = some .globalImplicit) (hkc : Γ.sc.names.lookup ("__class__" : Str) = some .free)
    (hi : Γ.names.lookup ar.arg = some i) (hl : l[i]? = some y) (hy : y ≠ .unb) (hself : ∀ v, VR ρ y v → ∃ adr its nn dx sl, v = .ref adr ∧ s.heap.get? adr = some ⟨.ref W.accC, some dx, .seq (List.toArray its) nn, sl⟩ ∧ Good adr its nn dx sl) (hat : (attr == ("__class__" : Str)) = false) (hcd : (ar.arg == ("__classdict__" : Str)) = false)
    (h : ∀ (adr : Addr) (its : List Value) (nn : Nat) (dx : Addr) (sl : Array (Option Value)) (so : Addr) (h' : Heap), s.heap.get? adr = some ⟨.ref W.accC, some dx, .seq its.toArray nn, sl⟩ → Good adr its nn dx sl →
      (∀ b o, s.heap.get? b = some o → h'.get? b = some o) → h'.get? so = some (ks_superObj 125 adr 125) → Q (.ref so) { s with heap := h' }) :
    PySem.wpAt (model W.prog W.w) A (.func body env) (attributeBase (.Call (.Name "super" p0) [] [] p1) attr env whole) Q E s := by
  have X := af.at_ R.h
  have hk : env.scope.kind = .function := by rw [hE.sc]; exact hE.kind
  have hx1 : env.kindOf ("super" : Str) = some .globalImplicit := by show env.scope.names.lookup _ = _; rw [hE.sc]; exact hks
  have hx2 : env.kindOf ("__class__" : Str) = some .free := by show env.scope.names.lookup _ = _; rw [hE.sc]; exact hkc
  refine ks_wpAt_super_base (env := env) hx1 hx2 hat hfu (X _ _ hf) rfl hp hco (X _ _ hcode) rfl hvs af.file af.top ?_
  refine ks_loadName_global hk hx1 (Calls.loadGlobal_builtin (by rw [hE.glob]; exact R.h.g) af.sup (by rw [hE.bi]; exact R.h.b) ((R.h.bok.bb ("super" : Str) (by decide +kernel)).trans (show bootBuiltins ("super" : Str) = some (.type "super") by decide +kernel)) ⟨rfl, ?_⟩)
  have hc49 : ∃ o, s.heap.get? 49 = some o ∧ o.data = .cell (some (.ref 125)) := ⟨_, X 49 _ rfl, rfl⟩
  refine wpAny_loadName_free hk hx2 (c := (49 : Nat)) (by rw [hcell]; rfl) hc49 ?_
  refine load_slot hE R.f hi hl hy hcd fun v hv => ?_
  obtain ⟨adr, its, nn, dx, sl, rfl, hob, hgood⟩ := hself v hv
  have hD : ∃ oD cdD, s.heap.get? 125 = some oD ∧ oD.data = .cls cdD := ⟨_, _, X 125 _ rfl, rfl⟩
  obtain ⟨oD, cdD, hD1, hD2⟩ := hD
  obtain ⟨hh, g, d, t, os⟩ := s
  refine ks_wpAny_isType_cls hD1 hD2 ⟨rfl, ?_⟩
  refine ks_wpAny_call_super hD1 hD2 hob (by show Value.ref W.accC = _; rw [af.cls]) (fun c e => by cases e) (looks_mroIn X (acc_mro af)) (fun h' e k => ?_)
  exact h adr its nn dx sl _ h' hob hgood k e
end
end Mine
namespace Mine
open PySem PySem.W PyProof.Rows PySem.Builtin

theorem looks_bound {M : Model} {h : Heap} {m : Addr} {bt : String} {vs : Array Value} (hm : h.get? m = some { cls := .type bt, dict := none, data := .fields vs, slots := #[] }) (hbt : bt = "builtin_function_or_method" ∨ bt = "method-wrapper") : Looks M h (keeperOf (.ref m)) .machine := by
  rcases hbt with rfl | rfl <;> exact (Looks.ld (part := none) hm).andThen .now

theorem acc_len (x : Addr) (cls : Value) (dx : Option Addr) (items : Array Value) (nn : Nat) (sl : Array (Option Value)) :
    Meets (Builtin.«list.__len__» ⟨[.ref x], []⟩) (fun _ R s => s.heap.get? x = some ⟨cls, dx, .seq items nn, sl⟩ ∧ R (.ok (.ret (.int items.size s.toks))) { s with toks := s.toks + 1 }) :=
  .of_wp fun prog w A R s h => by
    obtain ⟨hp, g, d, tk, os⟩ := s; obtain ⟨hl, h⟩ := h
    wp_walk using wpAny_loadPart' hl
    exact ⟨_, rfl, h⟩
theorem acc_pop (x : Addr) (cls : Value) (dx : Option Addr) (items : Array Value) (nn : Nat) (sl : Array (Option Value)) (y : Value) (hy : items[items.size - 1]? = some y) (hs1 : items.size ≤ sizeLine) :
    Meets (Builtin.«list.pop» ⟨[.ref x], []⟩) (fun _ R s => s.heap.get? x = some ⟨cls, dx, .seq items nn, sl⟩ ∧ R (.ok (.ret y)) { s with heap := s.heap.update x (Obj.mapSeq fun xs => xs.eraseIdxIfInBounds (items.size - 1)) }) :=
  .of_wp fun prog w A R s h => by
    obtain ⟨hp, g, d, tk, os⟩ := s; obtain ⟨hl, h⟩ := h
    have hpos : 0 < items.size := by
      rcases Nat.eq_zero_or_pos items.size with h0 | h0
      · simp [h0] at hy
      · exact h0
    have hne : ¬ items.isEmpty = true := by
      intro he; have : items.size = 0 := by simpa using he
      omega
    have hk : seqIndex? (-1) items.size = some (items.size - 1) := by
      rw [MeetsSeq.seqIndex_neg (by omega) (by omega)]; congr 1; omega
    wp_walk using wpAny_loadPart' hl
    simp only [hk, hy, Option.bind_some, Option.map_some]
    have hz' : (items.eraseIdxIfInBounds (items.size - 1)).size ≤ sizeLine + 1 := Nat.le_trans (MeetsSeq.size_erased items _) (Nat.le_succ_of_le hs1)
    wp_walk using (wpAny_updateSeq hl rfl (hz := hs1) (_hz' := hz')), wpAny_loadPart' hl
    exact ⟨_, rfl, h⟩
theorem cb_len (x : Addr) : checkBoundCall "list.__len__" ⟨[.ref x], []⟩ = pure () := by kernel_rfl

section
variable {W : Wd} {n : Nat} {Γ : Sc} {P : Params}
theorem RefFn.imp {fv : Addr} {F G : Fn} (h : RefFn W n fv F) (hi : ∀ l H k, G l H k = true → F l H k = true) : RefFn W n fv G :=
  fun A E s h₀ ρ φ l H k Q vals xs hR R r e hP => h A E s h₀ ρ φ l H k Q vals xs hR R r (hi _ _ _ e) hP

/-- super().name(), where the name is a builtin's -/
theorem super_call0G (af : AccF W P) {φ : List Loc} {h₀ : Heap} {ρ : List Addr} {l : List V} {H : Hp} {s : Shared} {env : Env} {A : Around} {E : Value → Shared → Prop} {body : List Stmt} {p0 p1 apos pos : Pos} {name : Str} {bt id T gid : String} {B G : Builtin}
    {fv cda : Nat} {fd : FuncData} {ar : Arg} {vs : Array Value} {tf : Tok} {oc ccl : Value} {od cdd : Option Addr} {osl ccs : Array (Option Value)} {i : Nat} {y : V} {Good : Addr → List Value → Nat → Addr → Array (Option Value) → Prop} {Q : Value → Shared → Prop} {pl : Sem Bool}
    (hE : EnvOK Γ φ env) (R : SR W φ h₀ ρ l H s)
    (hfu : env.func = some fv) (hf : (kfrag.heap_1 P).lookup fv = some ⟨oc, od, .func fd, osl⟩) (hp : (fd.params.posonlyargs ++ fd.params.args).head? = some ar)
    (hco : env.code = .ref cda) (hcode : (kfrag.heap_1 P).lookup cda = some ⟨ccl, cdd, .fields vs, ccs⟩) (hvs : vs[2]? = some (.str (Str.ofString "/claim/cut.py") tf))
    (hcell : env.cells = [(("__class__" : Str), (49 : Nat))]) (hks : Γ.sc.names.lookup ("super" : Str) = some .globalImplicit) (hkc : Γ.sc.names.lookup ("__class__" : Str) = some .free)
    (hi : Γ.names.lookup ar.arg = some i) (hl : l[i]? = some y) (hy : y ≠ .unb) (hself : ∀ v, VR ρ y v → ∃ adr its nn dx sl, v = .ref adr ∧ s.heap.get? adr = some ⟨.ref W.accC, some dx, .seq (List.toArray its) nn, sl⟩ ∧ Good adr its nn dx sl) (hat : (name == ("__class__" : Str)) = false) (hcd : (ar.arg == ("__classdict__" : Str)) = false)
    (hbt : bt = "builtin_function_or_method" ∨ bt = "method-wrapper")
    (hal : alongIn (kfrag.heap_1 P) name [.type "list", .type "object"] = some (some (.builtin id))) (hT : typeOf (.builtin id) = pure (.type T)) (slot : Slot T "__get__" gid) (gentry : entryFor table gid = some G) (gargs : ∀ a b c : Value, argsOk gid ⟨[a, b, c], []⟩)
    (hG : ∀ (x C : Addr) (h : Heap), Looks (model W.prog W.w) h (isInstance (.ref x) (.type "list")) true → ∀ (A : Around) (E : Value → Shared → Prop) (g : Array GenState) (d : Drawn) (t : Nat) (os : OsState) (Q : PySem.Fin → Shared → Prop), Q (.done (.ret (.ref h.objs.size))) ⟨h.push { cls := .type bt, data := .fields #[.builtin id, .ref x] }, g, d, t, os⟩ →
      wpAny (model W.prog W.w) A (G ⟨[.builtin id, .ref x, .ref C], []⟩) Q E ⟨h, g, d, t, os⟩)
    (hpl : plainId id = true) (entry : entryFor table id = some B)
    (hck : ∀ (x dx : Addr) (its : List Value) (s₁ : Shared), (kfrag.heap_1 P).In s₁.heap → AccO s₁.heap x dx its.toArray → ∀ {A : Around} {E : Value → Shared → Prop} {Q : Unit → Shared → Prop}, Q () s₁ → wpAny (model W.prog W.w) A (checkBoundCall id ⟨[.ref x], []⟩) Q E s₁)
    (h : ∀ (adr : Addr) (its : List Value) (nn : Nat) (dx : Addr) (sl : Array (Option Value)) (s₁ : Shared), s₁.heap.get? adr = some ⟨.ref 125, some dx, .seq its.toArray nn, sl⟩ → Good adr its nn dx sl →
      (∀ b o, s.heap.get? b = some o → s₁.heap.get? b = some o) → s₁.os = s.os → s₁.gens = s.gens → ∃ S, Meets (B ⟨[.ref adr], []⟩) S ∧ ∀ A, S A (wants Q E) s₁)
    (he : PySem.eval (.Call (.Attribute (.Call (.Name "super" p0) [] [] p1) name apos) [] [] pos) env = (do
      let ov ← attributeBase (.Call (.Name "super" p0) [] [] p1) name env (PySem.eval (.Call (.Name "super" p0) [] [] p1) env)
      standAt apos.atName
      let (f, first) ← holding [ov] (getMethod ov name pl)
      callWith pos f first (backTo pos (starEach [] env)) []) := by rfl) :
    PySem.wpAt (model W.prog W.w) A (.func body env) (eval (.Call (.Attribute (.Call (.Name "super" p0) [] [] p1) name apos) [] [] pos) env) Q E s := by
  refine ks_wpAt_MethodCall (super_baseG af hE R hfu hf hp hco hcode hvs hcell hks hkc hi hl hy hself hat hcd fun adr its nn dx sl so h' hob hgood hk hso => ?_) he
  have X' : (kfrag.heap_1 P).In h' := (af.at_ R.h).keeps hk
  have hob' := hk _ _ hob
  rw [af.cls] at hob'
  have hne : adr ≠ (125 : Nat) := fun e => by
    have h125 : s.heap.get? 125 = some ⟨.type "type", _, .cls _, _⟩ := af.at_ R.h 125 _ rfl
    rw [← e, hob] at h125
    cases h125
  have hI : Looks (model W.prog W.w) h' (isInstance (.ref adr) (.type "list")) true := ((Looks.ld hob').andThen .now).andThen (looks_mroIn X' acc_list)
  obtain ⟨hh, g, d, t, os⟩ := s
  refine getMethod_superb hso (looks_opaque X' rfl) (l₀ := [.ref 125, .type "list", .type "object"]) ((looks_clsIn X' rfl).andThen .now) rfl X' hal hT slot gentry gargs hne hat (hG _ _ _ hI) ?_
  have hm : (h'.push { cls := .type bt, data := .fields #[.builtin id, .ref adr] }).get? h'.objs.size = some { cls := .type bt, data := .fields #[.builtin id, .ref adr] } := Heap.get?_push_at rfl rfl
  refine callWith_of (P := fun h => h.get? h'.objs.size = some { cls := .type bt, data := .fields #[.builtin id, .ref adr] }) rfl (fun h hm => ⟨.machine, .inr (.inl rfl), looks_bound hm hbt⟩) (PyProof.Rows.evalArgs_nil3 ⟨hm, ?_⟩)
  have hob2 := Heap.get?_push_of_some { cls := .type bt, data := .fields #[.builtin id, .ref adr] } hob'
  obtain ⟨S, hB, hS⟩ := h adr its nn dx sl ⟨h'.push { cls := .type bt, data := .fields #[.builtin id, .ref adr] }, g, d, t + 1, os⟩ hob2 hgood (fun b o e => Heap.get?_push_of_some _ (hk b o e)) rfl rfl
  exact call_bound hm (by rcases hbt with rfl | rfl <;> exact ⟨by decide +kernel, by decide +kernel⟩) (fun q => hck _ dx its _ (X'.keeps fun b o e => Heap.get?_push_of_some _ e) ⟨nn, sl, hob2⟩ q) hpl entry hB hS

/-- super().name(), where the name is a builtin's -/
theorem super_call0 (af : AccF W P) {φ : List Loc} {h₀ : Heap} {ρ : List Addr} {l : List V} {H : Hp} {s : Shared} {env : Env} {A : Around} {E : Value → Shared → Prop} {body : List Stmt} {p0 p1 apos pos : Pos} {name : Str} {bt id T gid : String} {B G : Builtin}
    {fv cda j dk : Nat} {fd : FuncData} {ar : Arg} {vs : Array Value} {tf : Tok} {oc ccl : Value} {od cdd : Option Addr} {osl ccs : Array (Option Value)} {i : Nat} {items : List V} {Q : Value → Shared → Prop} {pl : Sem Bool}
    (hE : EnvOK Γ φ env) (R : SR W φ h₀ ρ l H s)
    (hfu : env.func = some fv) (hf : (kfrag.heap_1 P).lookup fv = some ⟨oc, od, .func fd, osl⟩) (hp : (fd.params.posonlyargs ++ fd.params.args).head? = some ar)
    (hco : env.code = .ref cda) (hcode : (kfrag.heap_1 P).lookup cda = some ⟨ccl, cdd, .fields vs, ccs⟩) (hvs : vs[2]? = some (.str (Str.ofString "/claim/cut.py") tf))
    (hcell : env.cells = [(("__class__" : Str), (49 : Nat))]) (hks : Γ.sc.names.lookup ("super" : Str) = some .globalImplicit) (hkc : Γ.sc.names.lookup ("__class__" : Str) = some .free)
    (hi : Γ.names.lookup ar.arg = some i) (hl : l[i]? = some (.ref j)) (hacc : H.t.get j = some (.acc dk items)) (hat : (name == ("__class__" : Str)) = false) (hcd : (ar.arg == ("__classdict__" : Str)) = false)
    (hbt : bt = "builtin_function_or_method" ∨ bt = "method-wrapper")
    (hal : alongIn (kfrag.heap_1 P) name [.type "list", .type "object"] = some (some (.builtin id))) (hT : typeOf (.builtin id) = pure (.type T)) (slot : Slot T "__get__" gid) (gentry : entryFor table gid = some G) (gargs : ∀ a b c : Value, argsOk gid ⟨[a, b, c], []⟩)
    (hG : ∀ (x C : Addr) (h : Heap), Looks (model W.prog W.w) h (isInstance (.ref x) (.type "list")) true → ∀ (A : Around) (E : Value → Shared → Prop) (g : Array GenState) (d : Drawn) (t : Nat) (os : OsState) (Q : PySem.Fin → Shared → Prop), Q (.done (.ret (.ref h.objs.size))) ⟨h.push { cls := .type bt, data := .fields #[.builtin id, .ref x] }, g, d, t, os⟩ →
      wpAny (model W.prog W.w) A (G ⟨[.builtin id, .ref x, .ref C], []⟩) Q E ⟨h, g, d, t, os⟩)
    (hpl : plainId id = true) (entry : entryFor table id = some B)
    (hck : ∀ (x dx : Addr) (its : List Value) (s₁ : Shared), (kfrag.heap_1 P).In s₁.heap → AccO s₁.heap x dx its.toArray → ∀ {A : Around} {E : Value → Shared → Prop} {Q : Unit → Shared → Prop}, Q () s₁ → wpAny (model W.prog W.w) A (checkBoundCall id ⟨[.ref x], []⟩) Q E s₁)
    (h : ∀ (adr : Addr) (its : List Value) (nn : Nat) (dx : Addr) (sl : Array (Option Value)) (s₁ : Shared), ρ[j]? = some adr → s₁.heap.get? adr = some ⟨.ref 125, some dx, .seq its.toArray nn, sl⟩ → VRs ρ items its → ρ[dk]? = some dx →
      (∀ b o, s.heap.get? b = some o → s₁.heap.get? b = some o) → s₁.os = s.os → s₁.gens = s.gens → ∃ S, Meets (B ⟨[.ref adr], []⟩) S ∧ ∀ A, S A (wants Q E) s₁)
    (he : PySem.eval (.Call (.Attribute (.Call (.Name "super" p0) [] [] p1) name apos) [] [] pos) env = (do
      let ov ← attributeBase (.Call (.Name "super" p0) [] [] p1) name env (PySem.eval (.Call (.Name "super" p0) [] [] p1) env)
      standAt apos.atName
      let (f, first) ← holding [ov] (getMethod ov name pl)
      callWith pos f first (backTo pos (starEach [] env)) []) := by rfl) :
    PySem.wpAt (model W.prog W.w) A (.func body env) (eval (.Call (.Attribute (.Call (.Name "super" p0) [] [] p1) name apos) [] [] pos) env) Q E s :=
  super_call0G (Good := fun adr its nn dx sl => ρ[j]? = some adr ∧ VRs ρ items its ∧ ρ[dk]? = some dx) af hE R hfu hf hp hco hcode hvs hcell hks hkc hi hl (by intro e; cases e)
    (fun v hv => let ⟨adr, its, nn, dx, sl, e, ha, hob, hits, hdx⟩ := R.h.accAt hacc hv; ⟨adr, its, nn, dx, sl, e, hob, ha, hits, hdx⟩) hat hcd hbt hal hT slot gentry gargs hG hpl entry hck
    (fun adr its nn dx sl s₁ hob hgood hk hos hg => h adr its nn dx sl s₁ hgood.1 hob hgood.2.1 hgood.2.2 hk hos hg) he

theorem call_part (af : AccF W P) : RefFn W (n + 2) 122 fPart := by
  have hf : (kfrag.heap_1 P).lookup 122 = some ⟨.type "function", _, .func _, _⟩ := rfl
  refine RefFn.imp (RefFn.ofAt (n := n + 1) (F := fPart) (Γ := ⟨_, [(("self" : Str), 0)]⟩) (ns := ["self"]) (ps := ["self"]) (m := 0) ⟨⟨_, af.X _ _ hf, rfl⟩, codeRec_of af.X (by first | rfl | kernel_rfl), rfl, rfl⟩ rfl rfl rfl (by decide +kernel) (by decide +kernel) (by decide +kernel) (by decide +kernel) rfl rfl
    (fun s vals _ hv => BindsTo.of_eq ?_) (fun A E s h₀ ρ φ env l H k Q hR hE hfu hco hce R h hP => ?_) rfl rfl) (fun l H k e => ?_)
  · match vals, hv with
    | [v], _ => rfl
  · have hP : Post W φ h₀ ρ l k Q := fun v x ρ' H' s' p R' => hP v x ρ' l H' s' p R'
    match l, h with
    | [y], h =>
      obtain ⟨j, dk, vs, rfl, hacc, h1⟩ := asAcc_of h
      obtain ⟨hc, h2⟩ := chk_of h1
      refine ks_wpAt_execs_cons (ks_wpAt_Return_some (super_call0 af hE R hfu hf rfl hco rfl rfl hce rfl rfl rfl rfl hacc rfl rfl (.inr rfl) rfl type_list_len' slot_wd_get entry_wd_get args_wd_get (fun _ _ _ hI A E g d t os Q q => wd_get_len hI q) (by decide +kernel) PySem.F.entry_list_len
        (fun _ _ _ _ _ _ _ _ _ q => wpAny_of_eq (cb_len _) q) fun adr its nn dx sl s₁ ha hob hits hdx hk hos hg => ⟨_, acc_len adr _ _ its.toArray nn sl, fun _ => ⟨hob, ?_⟩⟩))
      rw [lenL_eq, hits.len] at h2
      exact hP.here (x := .int (Int.ofNat its.length)) (R.ext hk hos hg) ⟨_, rfl⟩ h2
    | [], h => exact absurd h Bool.false_ne_true
    | _ :: _ :: _, h => exact absurd h Bool.false_ne_true
  · match l, e with
    | [y], e => exact e
    | [], h => exact absurd h Bool.false_ne_true
    | _ :: _ :: _, h => exact absurd h Bool.false_ne_true
end
end Mine
namespace Mine
open PySem PySem.W PyProof.Rows PySem.Builtin

theorem asPile_of {v : V} {H : Hp} {k : Nat → Int → List V → Bool} (h : asPile v H k = true) : ∃ a d f vs, v = .ref a ∧ H.t.get a = some (.acc d vs) ∧ H.t.get d = some (.inst f) ∧ k d f vs = true := by
  obtain ⟨a, d, vs, rfl, e, h1⟩ := asAcc_of (show asAcc v H _ = true from h)
  clear h
  cases e2 : H.t.get d with
  | none => rw [e2] at h1; exact absurd h1 Bool.false_ne_true
  | some o =>
    rw [e2] at h1
    cases o with
    | inst f => exact ⟨a, d, f, vs, rfl, e, e2, h1⟩
    | _ => exact absurd h1 Bool.false_ne_true

section
variable {W : Wd} {n : Nat} {Γ : Sc} {P : Params}

theorem HR.instAt {h₀ : Heap} {ρ : List Addr} {H : Hp} {s : Shared} {dk : Nat} {dx : Addr} {f : Int} (R : HR W h₀ ρ H s) (e : H.t.get dk = some (.inst f)) (hd : ρ[dk]? = some dx) :
    ∃ hs t u n, s.heap.get? dx = some (dictOf [⟨hs, .str (Str.ofString "_initial_size") t, .int f u⟩] n) := by
  obtain ⟨a, ha, h⟩ := R.obj dk _ e
  rw [hd] at ha
  cases ha
  exact h
theorem HR.pileAt (af : AccF W P) {h₀ : Heap} {ρ : List Addr} {H : Hp} {s : Shared} {j dk : Nat} {vs : List V} {f : Int} {v : Value} (R : HR W h₀ ρ H s) (e : H.t.get j = some (.acc dk vs)) (e2 : H.t.get dk = some (.inst f)) (r : VR ρ (.ref j) v) :
    ∃ adr items n dx sl hs t u m, v = .ref adr ∧ ρ[j]? = some adr ∧ s.heap.get? adr = some ⟨.ref 125, some dx, .seq (List.toArray items) n, sl⟩ ∧ VRs ρ vs items ∧ ρ[dk]? = some dx ∧
      InstAt s.heap adr ⟨.ref 125, some dx, .seq (List.toArray items) n, sl⟩ 125 (some (dictOf [⟨hs, .str (Str.ofString "_initial_size") t, .int f u⟩] m)) := by
  obtain ⟨adr, items, n, dx, sl, h1, h2, h3, h4, h5⟩ := R.accAt e r
  obtain ⟨hs, t, u, m, h6⟩ := R.instAt e2 h5
  rw [af.cls] at h3
  exact ⟨adr, items, n, dx, sl, hs, t, u, m, h1, h2, h3, h4, h5, h3, rfl, rfl, h6⟩

theorem Refs.noStar {es : List PySem.Expr} {Fs : List C} {pos : Pos} {env : Env} (r : Refs W n Γ es Fs) : (backTo pos (starEach es env)).any (·.1) = false := by
  induction r with
  | nil => rfl
  | @cons e F es Fs he hs hr ih =>
    rw [hs es env]
    show (false || (backTo pos (starEach es env)).any (·.1)) = false
    rw [ih]; rfl
theorem acc_ga (P : Params) : findIn (kfrag.heap_1 P) (.ref 125) "__getattribute__" = some (some (.builtin "list.__getattribute__")) := by kernel_rfl
theorem acc_gattr (P : Params) : findIn (kfrag.heap_1 P) (.ref 125) "__getattr__" = some none := by kernel_rfl
theorem canon_list_ga : (Manifest.canonical "list.__getattribute__" != "object.__getattribute__") = false := by decide +kernel
theorem acc_method {prog : Program} {w : World} {A : Around} {E : Value → Shared → Prop} {s : Shared} {x : Addr} {ox : Obj} {od : Option Obj} {pl : Sem Bool} {Q : Value × List Value → Shared → Prop} {name : Str} {f : Addr} (X : (kfrag.heap_1 P).In s.heap) (I : InstAt s.heap x ox 125 od)
    (hf : findIn (kfrag.heap_1 P) (.ref 125) name = some (some (.ref f))) (ht : typeIn (kfrag.heap_1 P) (.ref f) = some (.type "function")) (hs : shadowIn od name = some false) (h : Q (.ref f, [.ref x]) s) :
    wpAny (model prog w) A (getMethod (.ref x) name pl) Q E s := by
  have hcan := canon_list_ga
  unfold getMethod specialOf
  refine wpAny_bind (wpAny_bind (I.type.here ((looks_findIn X (acc_ga P)).here ?_)))
  dsimp only
  rw [hcan, if_neg (by decide)]
  refine wpAny_bind (wpAny_bind (I.type.here ((looks_findIn X (acc_gattr P)).here ?_)))
  refine wpAny_bind (wpAny_bind (I.type.here ((looks_findIn X hf).here (wpAny_bind ((looks_typeIn X ht).here ?_)))))
  rw [if_neg (by decide +kernel)]
  refine wpAny_bind (wpAny_loadPart I.at_ ?_)
  have hd := I.dict
  cases e : ox.dict with
  | none => exact wpAny_bind (wpAny_rule (wpAny_pure h))
  | some dx =>
    cases od with
    | none => rw [e] at hd; exact hd.elim
    | some o =>
      rw [e] at hd
      obtain ⟨r, a, b⟩ := Option.map_eq_some_iff.mp hs
      refine wpAny_bind (wpAny_bind (wpAny_loadPart hd ?_))
      rw [nsLook_of a]
      refine wpAny_pure ?_
      rw [b]
      exact wpAny_bind (wpAny_rule (wpAny_pure h))
/-- a method of the accumulator's is called -/
theorem Ref.accMeth (af : AccF W P) {name : Str} {fv : Nat} {f : Fn} {e : PySem.Expr} {es : List PySem.Expr} {F : C} {Fs : List C} {apos pos : Pos} {fd : FuncData} (hm : findIn (kfrag.heap_1 P) (.ref 125) name = some (some (.ref fv))) (hfn : (kfrag.heap_1 P).lookup fv = some ⟨.type "function", none, .func fd, #[]⟩)
    (hnm : (name == Str.ofString "_initial_size") = false) (hF : RefFn W n fv f) (he : Ref W n Γ e F) (hr : Refs W n Γ es Fs)
    (hbase : ∀ env : Env, attributeBase e name env (eval e env) = eval e env := by intro _; rfl) (hline : (apos.endLine == pos.line) = true := by decide +kernel) (hlt : es.length < 30 := by decide) : Ref W n Γ (.Call (.Attribute e name apos) es [] pos) (cMeth f F Fs) := by
  intro A E s h₀ ρ φ env l H k Q hR hE R h hP
  rw [arm_eval_Call, hbase]
  refine wpAny_bind (he A E s h₀ ρ φ env l H _ _ hR hE R h fun v x ρ₁ H₁ s₁ p₁ R₁ r₁ h₁ => ?_)
  refine wpAny_bind (wpAny_standAt ?_)
  have hany : (backTo pos (starEach es env)).any (·.1) = false := hr.noStar
  have hform : methodCallForm (es.length + ([] : List Keyword).length) (backTo pos (starEach es env)) (backToKw pos (keywordEach [] env)) = true := by
    unfold methodCallForm
    have : (backTo pos (starEach es env)).all (fun x => !x.1) = true := by
      rw [List.all_eq_true]
      intro x hx
      have := List.any_eq_false.mp hany x hx
      simpa using this
    rw [this]
    show (true && true && decide (es.length + 0 + 0 < 30)) = true
    simpa using hlt
  have hpos : methodCallPos true e env apos pos = pure pos := by unfold methodCallPos; simp [hline]
  unfold methodCall
  rw [hform]
  obtain ⟨j, dk, fi, vs, rfl, e1, e2, h₂⟩ := asPile_of h₁
  obtain ⟨adr, items, nn, dx, sl, hs, t, u, m, rfl, ha, hob, hits, hdx, I⟩ := R₁.h.pileAt af e1 e2 r₁
  refine wpAny_bind (wpAny_holding (acc_method (af.at_ R₁.h) I hm (by show ((kfrag.heap_1 P).lookup fv).map (·.cls) = _; rw [hfn]; rfl) ?_ (wpAny_bind (wpAny_of_eq hpos ?_))))
  · show (lookIn name (dictOf [⟨hs, .str (Str.ofString "_initial_size") t, .int fi u⟩] m)).map _ = _
    have hk : (Str.ofString "_initial_size" == name) = false := by
      cases q : (Str.ofString "_initial_size" == name) with
      | false => rfl
      | true => rw [beq_iff_eq.mp q] at hnm; simp at hnm
    rw [lookIn_dict]
    unfold getL
    simp [Value.isStr, hk, DictEntry.refKey]
  · have ho := af.at_ R₁.h fv _ hfn
    have := hr.args (pos := pos) (f := .ref fv) (Q := fun a s₁ => (s₁.heap.get? fv = some ⟨.type "function", none, .func fd, #[]⟩ ∧ (⟨.type "function", none, .func fd, #[]⟩ : Obj).data = .func fd) ∧ wpAny (model W.prog W.w) A (PySem.call (.ref fv) ([.ref adr] ++ a.pos) a.kw) Q E s₁) (E := E) hR hE R₁ h₂ fun vals xs ρ₂ H₂ s₂ p₂ R₂ r₂ h₃ => ?_
    · exact Calls.callWith_function (o := ⟨.type "function", none, .func fd, #[]⟩) (fd := fd) this.1
    · exact ⟨⟨af.at_ R₂.h fv _ hfn, rfl⟩, hF A E s₂ h₀ ρ₂ φ l H₂ k Q (.ref adr :: vals) (.ref j :: xs) hR R₂ ⟨r₁.mono p₂, r₂⟩ h₃ (hP.mono (p₁.trans p₂))⟩
end
end Mine
namespace Mine
open PySem PySem.W PyProof.Rows PySem.Builtin

theorem lastO_go {α : Type} : ∀ (l : List α) (d : Option α), (@List.rec α (fun _ => Option α → Option α) (fun d => d) (fun x _ ih _ => ih (some x)) l d) = l.getLast?.or d
  | [], d => by simp
  | [x], d => rfl
  | x :: y :: l, d => by
    show (@List.rec α (fun _ => Option α → Option α) (fun d => d) (fun x _ ih _ => ih (some x)) (y :: l) (some x)) = _
    rw [lastO_go (y :: l) (some x)]
    rw [List.getLast?_cons_cons]
    cases e : (y :: l).getLast? with
    | none => simp at e
    | some z => rfl
theorem lastO_eq {α : Type} (l : List α) : lastO l = l.getLast? := by
  unfold lastO
  rw [lastO_go]; simp

theorem acc_upd {h : Heap} {adr : Addr} {c : Value} {dx : Option Addr} {its : Array Value} {nn : Nat} {sl : Array (Option Value)} (e : h.get? adr = some ⟨c, dx, .seq its nn, sl⟩) (g : Array Value → Array Value) :
    ∃ n', (h.update adr (Obj.mapSeq g)).get? adr = some ⟨c, dx, .seq (g its) n', sl⟩ := ⟨_, Heap.get?_update_self _ e rfl⟩
section
variable {W : Wd} {n : Nat} {Γ : Sc} {P : Params}

noncomputable def popRest (k : K) (a : V) (b : Bool) (h : Hp) : Bool := match b with
  | true => newO (.tup [.str [], .str []]) h k
  | false => asAcc a h fun f vs => chk (Nat.ble (lenL vs) 4096) <| match lastO vs with
    | .none => false
    | some v => setO a (.acc f (takeL vs (lenL vs - 1))) h fun h => k v h
theorem popTest {a : V} {H : Hp} {k : K} (h : fPop [a] H k = true) : bC (cOp2 oEqI (cMeth fPart (cVar 0) []) (cVal (.int 0))) [a] H (popRest k a) = true := by
  obtain ⟨j, dk, fi, vs, rfl, hacc, hin, h1⟩ := asPile_of h
  obtain ⟨hc, h2⟩ := chk_of h1
  show asPile (.ref j) H (fun _ _ _ => asAcc (.ref j) H fun _ vs => chk (Nat.ble (lenL vs) 4096) (popRest k (.ref j) (eqZ (Int.ofNat (lenL vs)) 0) H)) = true
  unfold asPile asAcc asRef
  simp only [hacc, hin]
  rw [hc]
  show popRest k (.ref j) (eqZ (Int.ofNat (lenL vs)) 0) H = true
  cases vs with
  | nil => exact h2
  | cons x xs =>
    show asAcc (.ref j) H _ = true
    unfold asAcc asRef
    simp only [hacc]
    rw [hc]
    cases e : lastO (x :: xs) with
    | none => rw [lastO_eq] at e; simp at e
    | some v => rw [e] at h2; exact h2

theorem call_pop (af : AccF W P) : RefFn W (n + 4) 85 fPop := by
  have hf : (kfrag.heap_1 P).lookup 85 = some ⟨.type "function", _, .func _, _⟩ := rfl
  have hf2 : (kfrag.heap_1 P).lookup 122 = some ⟨.type "function", none, .func _, #[]⟩ := rfl
  refine RefFn.imp (RefFn.ofAt (n := n + 3) (F := fPop) (Γ := ⟨_, [(("self" : Str), 0)]⟩) (ns := ["self"]) (ps := ["self"]) (m := 0) ⟨⟨_, af.X _ _ hf, rfl⟩, codeRec_of af.X (by first | rfl | kernel_rfl), rfl, rfl⟩ rfl rfl rfl (by decide +kernel) (by decide +kernel) (by decide +kernel) (by decide +kernel) rfl rfl
    (fun s vals _ hv => BindsTo.of_eq ?_) (fun A E s h₀ ρ φ env l H k Q hR hE hfu hco hce R h hP => ?_) rfl rfl) (fun l H k e => ?_)
  · match vals, hv with
    | [v], _ => rfl
  · have hP : Post W φ h₀ ρ l k Q := fun v x ρ' H' s' p R' => hP v x ρ' l H' s' p R'
    match l, h with
    | [y], h =>
      refine ks_wpAt_execs_cons (ks_wpAt_If (wpAt_of_wpAny (RefB.cmp (op_eqI (W := W) (n := n + 3)) (Ref.accMeth (name := "part_count") af (by kernel_rfl) hf2 (by decide +kernel) (call_part (n := n + 1) af) (Ref.var rfl) .nil) (Ref.int (i := 0)) (hm := rfl) A E s h₀ ρ φ env [y] H (popRest k y) _ hR hE R (popTest h) fun b ρ₁ H₁ s₁ p₁ R₁ hb => ?_)))
      cases b with
      | true =>
        refine ks_wpAt_execs_cons (ks_wpAt_Return_some (wpAt_of_wpAny (Ref.tup (.cons (Ref.str (t := [])) (by intro _ _; rfl) (.cons (Ref.str (t := [])) (by intro _ _; rfl) .nil)) A E s₁ h₀ ρ₁ φ env [y] H₁ k _ hR hE R₁ hb (hP.mono p₁))))
      | false =>
        refine wpAt_of_wpAny (wpAny_pure ?_)
        obtain ⟨j, dk, vs, rfl, hacc, h1⟩ := asAcc_of hb
        obtain ⟨hc, h2⟩ := chk_of h1
        refine ks_wpAt_execs_cons (ks_wpAt_Return_some (super_call0 af hE R₁ hfu hf rfl hco rfl rfl hce rfl rfl rfl rfl hacc rfl rfl (.inl rfl) rfl PySem.F.type_list_pop slot_md_get entry_md_get args_md_get (fun _ _ _ hI A E g d t os Q q => md_get_pop hI q) (by decide +kernel) PySem.F.entry_list_pop
          (fun x dx its s₁ X a A E Q q => cb_pop X a q) fun adr its nn dx sl s₂ ha hob hits hdx hk hos hg => ?_))
        have hz := PySem.W.Z.ble_iff.mp hc
        rw [lenL_eq] at hz
        have hlen := hits.len
        cases e : lastO vs with
        | none => rw [e] at h2; exact absurd h2 Bool.false_ne_true
        | some v =>
          rw [e] at h2
          have h3 : k v ⟨H₁.t.put (.acc dk (takeL vs (lenL vs - 1))) j, H₁.n⟩ = true := h2
          rw [lastO_eq, List.getLast?_eq_getElem?] at e
          obtain ⟨y, hy1, hy2⟩ := hits.get e
          have hlt : vs.length - 1 < its.length := (List.getElem?_eq_some_iff.mp hy1).1
          refine ⟨_, acc_pop adr _ _ its.toArray nn sl y (by simpa [hlen] using hy1) (by rw [List.size_toArray, sizeLine_eq]; omega), fun _ => ⟨hob, ?_⟩⟩
          have R₂ : SR W φ h₀ ρ₁ [.ref j] H₁ s₂ := R₁.ext hk hos hg
          rw [takeL_eq, lenL_eq] at h3
          obtain ⟨n', hup⟩ := acc_upd hob fun xs => xs.eraseIdxIfInBounds (its.toArray.size - 1)
          have hE2 : its.toArray.eraseIdxIfInBounds (its.toArray.size - 1) = (its.take (vs.length - 1)).toArray := by
            rw [List.size_toArray, ← hlen, eraseL (by omega), List.drop_eq_nil_of_le (by omega), List.append_nil]
          rw [hE2, ← af.cls] at hup
          exact (hP.mono p₁).here (x := v) (R₂.upd (o := .acc dk (vs.take (vs.length - 1))) (s' := { s₂ with heap := s₂.heap.update adr (Obj.mapSeq fun xs => xs.eraseIdxIfInBounds (its.toArray.size - 1)) }) ha (Heap.SameBut.update ..).extBut ⟨its.take (vs.length - 1), n', dx, sl, hup, hits.take _, hdx⟩) hy2 h3
    | [], h => exact absurd h Bool.false_ne_true
    | _ :: _ :: _, h => exact absurd h Bool.false_ne_true
  · match l, e with
    | [y], e => exact e
    | [], h => exact absurd h Bool.false_ne_true
    | _ :: _ :: _, h => exact absurd h Bool.false_ne_true
end
end Mine
namespace Mine
open PySem PySem.W PyProof.Rows PySem.Builtin

theorem acc_methodG {P : Params} {prog : Program} {w : World} {A : Around} {E : Value → Shared → Prop} {s : Shared} {x : Addr} {ox : Obj} {od : Option Obj} {pl : Sem Bool} {Q : Value × List Value → Shared → Prop} {name : Str} {f tf : Value} (X : (kfrag.heap_1 P).In s.heap) (I : InstAt s.heap x ox 125 od)
    (hf : findIn (kfrag.heap_1 P) (.ref 125) name = some (some f)) (ht : typeOf f = pure tf) (htt : (tf != .type "function" && tf != .type "method_descriptor" && tf != .type "wrapper_descriptor") = false) (hs : shadowIn od name = some false) (h : Q (f, [.ref x]) s) :
    wpAny (model prog w) A (getMethod (.ref x) name pl) Q E s := by
  have hcan := canon_list_ga
  unfold getMethod specialOf
  refine wpAny_bind (wpAny_bind (I.type.here ((looks_findIn X (acc_ga P)).here ?_)))
  dsimp only
  rw [hcan, if_neg (by decide)]
  refine wpAny_bind (wpAny_bind (I.type.here ((looks_findIn X (acc_gattr P)).here ?_)))
  refine wpAny_bind (wpAny_bind (I.type.here ((looks_findIn X hf).here (wpAny_bind (wpAny_of_eq ht ?_)))))
  rw [htt, if_neg (by decide)]
  refine wpAny_bind (wpAny_loadPart I.at_ ?_)
  have hd := I.dict
  cases e : ox.dict with
  | none => exact wpAny_bind (wpAny_rule (wpAny_pure h))
  | some dx =>
    cases od with
    | none => rw [e] at hd; exact hd.elim
    | some o =>
      rw [e] at hd
      obtain ⟨r, a, b⟩ := Option.map_eq_some_iff.mp hs
      refine wpAny_bind (wpAny_bind (wpAny_loadPart hd ?_))
      rw [nsLook_of a]
      refine wpAny_pure ?_
      rw [b]
      exact wpAny_bind (wpAny_rule (wpAny_pure h))
theorem shadow_no {name : Str} {hs : Int} {t u m : Nat} {f : Int} (hnm : (name == Str.ofString "_initial_size") = false) : shadowIn (some (dictOf [⟨hs, .str (Str.ofString "_initial_size") t, .int f u⟩] m)) name = some false := by
  show (lookIn name (dictOf [⟨hs, .str (Str.ofString "_initial_size") t, .int f u⟩] m)).map _ = _
  have hk : (Str.ofString "_initial_size" == name) = false := by
    cases q : (Str.ofString "_initial_size" == name) with
    | false => rfl
    | true => rw [beq_iff_eq.mp q] at hnm; simp at hnm
  rw [lookIn_dict]
  unfold getL
  simp [Value.isStr, hk, DictEntry.refKey]
theorem check_method {M : Model} {A : Around} {E : Value → Shared → Prop} {s : Shared} {i owner n : String} {self : Value} {rest : List Value} {kw : List (Str × Value)} {Q : Unit → Shared → Prop}
    (hk : builtinKind i = some .method ∨ builtinKind i = some .slot) (hs : splitId i = some (owner, n)) (hi : Looks M s.heap (isInstance self (.type owner)) true) (ha : argsOk i ⟨self :: rest, kw⟩) (q : Q () s) :
    wpAny M A (checkBuiltinCall i ⟨self :: rest, kw⟩) Q E s := by
  rcases hk with hk | hk <;>
  · simp only [checkBuiltinCall, hk, hs]
    refine wpAny_bind (hi.here ?_)
    simp only [Bool.not_true, Bool.false_eq_true, if_false]
    cases hsig : Manifest.signature? i with
    | none => exact wpAny_pure q
    | some sig =>
      simp only [argsOk, hsig] at ha
      have h2 : Bind.checkArgs i sig ⟨self :: rest, kw⟩ = pure () := ha
      show wpAny M A (Bind.checkArgs i sig ⟨self :: rest, kw⟩) Q E s
      rw [h2]; exact wpAny_pure q
/-- a builtin of list's is called on the accumulator -/
theorem call_accB {P : Params} {prog : Program} {w : World} {A : Around} {E : Value → Shared → Prop} {s : Shared} {id n : String} {B : Builtin} {x : Addr} {ox : Obj} {rest : List Value} {S : PySem.Spec} {Q : Value → Shared → Prop} (X : (kfrag.heap_1 P).In s.heap) (hx : s.heap.get? x = some ox) (hc : ox.cls = .ref 125)
    (hk : builtinKind id = some .method ∨ builtinKind id = some .slot) (hs : splitId id = some ("list", n)) (ha : argsOk id ⟨.ref x :: rest, []⟩) (hpl : plainId id = true) (entry : entryFor table id = some B) (hB : Meets (B ⟨.ref x :: rest, []⟩) S) (h : S A (wants Q E) s) :
    wpAny (model prog w) A (PySem.call (.builtin id) (.ref x :: rest)) Q E s :=
  wpAny_call (codeAny_call_builtin hpl entry (check_method hk hs (((Looks.ld hx).andThen (by rw [hc]; exact .now)).andThen (looks_mroIn X acc_list)) ha (hB prog w A (wants Q E) s h)))

theorem acc_append (x : Addr) (cls : Value) (dx : Option Addr) (items : Array Value) (nn : Nat) (sl : Array (Option Value)) (y : Value) (hs1 : items.size ≤ sizeLine) :
    Meets (Builtin.«list.append» ⟨[.ref x, y], []⟩) (fun _ R s => s.heap.get? x = some ⟨cls, dx, .seq items nn, sl⟩ ∧ R (.ok (.ret .none)) { s with heap := s.heap.update x (Obj.mapSeq fun xs => xs.push y) }) :=
  .of_wp fun prog w A R s h => by
    obtain ⟨hl, h⟩ := h
    show wpAny _ _ (updateSeq x (·.push y) >>= fun _ => ret .none) _ _ s
    exact wpAny_bind (wpAny_updateSeq hl rfl (wpAny_pure ⟨.none, rfl, h⟩) (hz := hs1))
section
variable {W : Wd} {n : Nat} {Γ : Sc} {P : Params}

theorem arm_method (e : PySem.Expr) (name : Str) (apos pos : Pos) (es : List PySem.Expr) (env : Env) : PySem.eval (.Call (.Attribute e name apos) es [] pos) env = (do
    let ov ← attributeBase e name env (PySem.eval e env)
    standAt apos.atName
    methodCall e name apos pos env ov (es.length + ([] : List Keyword).length) (backTo pos (starEach es env)) (backToKw pos (keywordEach [] env))) := arm_eval_Call ..

/-- self.append(x) -/
theorem Ref.appA (af : AccF W P) {e a : PySem.Expr} {F G : C} {apos pos : Pos} (he : Ref W n Γ e F) (ha : Ref W n Γ a G)
    (hs : ∀ (rest : List PySem.Expr) (env : Env), starEach (a :: rest) env = (false, PySem.eval a env) :: starEach rest env := by intro _ _; rfl)
    (hbase : ∀ env : Env, attributeBase e "append" env (PySem.eval e env) = PySem.eval e env := by intro _; rfl) (hline : (apos.endLine == pos.line) = true := by decide +kernel) : Ref W n Γ (.Call (.Attribute e "append" apos) [a] [] pos) (cAppA F G) := by
  intro A E s h₀ ρ φ env l H k Q hR hE R h hP
  have e1 : backTo pos (starEach [a] env) = [(false, PySem.eval a env)] := by rw [hs]; rfl
  rw [arm_method, hbase, e1]
  refine wpAny_bind (he A E s h₀ ρ φ env l H _ _ hR hE R h fun v x ρ₁ H₁ s₁ p₁ R₁ r₁ h₁ => ?_)
  refine wpAny_bind (wpAny_standAt ?_)
  have hpos : methodCallPos true e env apos pos = pure pos := by unfold methodCallPos; simp [hline]
  have hform : methodCallForm (([a] : List PySem.Expr).length + ([] : List Keyword).length) [(false, PySem.eval a env)] (backToKw pos (keywordEach [] env)) = true := rfl
  unfold methodCall
  rw [hform]
  obtain ⟨j, dk, fi, vs, rfl, e1, e2, h₂⟩ := asPile_of h₁
  obtain ⟨adr, items, nn, dx, sl, hs, t, u, m, rfl, hadr, hob, hits, hdx, I⟩ := R₁.h.pileAt af e1 e2 r₁
  refine wpAny_bind (wpAny_holding (acc_methodG (f := .builtin "list.append") (af.at_ R₁.h) I (by kernel_rfl) type_list_append (by decide +kernel) (shadow_no (by decide +kernel)) (wpAny_bind (wpAny_of_eq hpos ?_))))
  refine Calls.callWith_builtin rfl (Calls.evalArgs_plain (Calls.spliced_cons (ha A E s₁ h₀ ρ₁ φ env l H₁ _ _ hR hE R₁ h₂ fun w y ρ₂ H₂ s₂ p₂ R₂ r₂ h₃ => Calls.spliced_nil ?_)))
  obtain ⟨j', dk', vs', ej, hacc, h4⟩ := asAcc_of h₃
  obtain ⟨hc, h5⟩ := chk_of h4
  cases ej
  have hz := PySem.W.Z.ble_iff.mp hc
  rw [lenL_eq] at hz
  obtain ⟨adr', its, n', dx', sl', ea, ha', hob', hits', hdx'⟩ := R₂.h.accAt hacc (r₁.mono p₂)
  cases ea
  have hlen := hits'.len
  refine call_accB (n := "append") (af.at_ R₂.h) hob' (by show Value.ref W.accC = _; rw [af.cls]) (.inl (by decide +kernel)) (by decide +kernel) (args_list_append _ _) (by decide +kernel) entry_list_append (acc_append adr _ _ its.toArray n' sl' w (by rw [List.size_toArray, sizeLine_eq]; omega)) ⟨hob', ?_⟩
  obtain ⟨n'', hup⟩ := acc_upd hob' fun xs => xs.push w
  have h6 : k .none ⟨H₂.t.put (.acc dk' (vs' ++ [y])) j, H₂.n⟩ = true := by
    have h6 : k .none ⟨H₂.t.put (.acc dk' (appL vs' [y])) j, H₂.n⟩ = true := h5
    rw [appL_eq] at h6; exact h6
  exact (hP.mono (p₁.trans p₂)).here (x := .none) (R₂.upd (o := .acc dk' (vs' ++ [y])) (s' := { s₂ with heap := s₂.heap.update adr (Obj.mapSeq fun xs => xs.push w) }) ha' (Heap.SameBut.update ..).extBut ⟨its ++ [w], n'', dx', sl', by simpa using hup, hits'.app ⟨r₂, trivial⟩, hdx'⟩) rfl h6
end
end Mine
namespace Mine
open PySem PySem.W PyProof.Rows PySem.Builtin

theorem acc_getslice (x sl : Addr) (cls : Value) (dx : Option Addr) (items : Array Value) (nn : Nat) (slots : Array (Option Value)) (vl vu vs : Value) (lo hi st : Option Int) (pl : IsPart vl lo) (pu : IsPart vu hi) (ps : IsPart vs st) (h0 : st ≠ some 0) (hsz : items.size ≤ sizeLine) :
    Meets (Builtin.«list.__getitem__» ⟨[.ref x, .ref sl], []⟩) (fun _ R s => s.heap.get? x = some ⟨cls, dx, .seq items nn, slots⟩ ∧ s.heap.IsSliceOf sl vl vu vs ∧ R (.ok (.ret (.ref s.heap.objs.size))) { s with heap := s.heap.push { cls := .type "list", data := .seq (slicePick items lo hi st) } }) :=
  .of_wp fun prog w A R s h => by
    obtain ⟨ho, hs, h⟩ := h
    obtain ⟨os, hos, hcs, hds⟩ := id hs
    have hTs : s.TypeIs (.ref sl) "slice" := ⟨os, hos, hcs⟩
    show wpAny _ _ (Builtin.List.listSubscript? (.ref sl) >>= _) _ _ s
    refine wpAny_bind ?_
    unfold Builtin.List.listSubscript?
    refine wpAny_bind (wpAny_specialOf hTs slice_no_index ?_)
    simp only [Option.isNone_none, if_true]
    refine wpAny_pure ?_
    show wpAny _ _ (typeOf (.ref sl) >>= _) _ _ s
    refine wpAny_bind (wpAny_typeOf hTs ?_)
    rw [if_neg (by decide)]
    rw [listSliceParts_eq]
    have hstep : ¬ ((rawPart st == rawInt 0) = true) := by
      cases st with
      | none => exact Bool.false_ne_true
      | some c =>
        intro hh
        have : c = 0 := by simpa [rawPart, rawInt] using hh
        exact h0 (by rw [this])
    refine wpAny_bind (wpAny_bind (wpAny_field hos hds (x := vs) rfl (wpAny_bind (wpAny_listPart ps ?_))))
    rw [if_neg hstep]
    refine wpAny_bind (wpAny_field hos hds (x := vl) rfl (wpAny_bind (wpAny_listPart pl ?_)))
    refine wpAny_bind (wpAny_field hos hds (x := vu) rfl (wpAny_bind (wpAny_listPart pu (wpAny_pure ?_))))
    refine wpAny_bind (m := Builtin.List.listItems (.ref x)) ?_
    unfold Builtin.List.listItems
    refine wpAny_bind (wpAny_seqItems ho rfl (wpAny_pure ?_))
    refine wpAny_bind (wpAny_of_eq (sliceIndices_raw lo hi st items.size h0) ?_)
    exact wpAny_bind (wpAny_newObj_type (wpAny_pure ⟨_, rfl, h⟩) (Nat.le_trans (slicePick_size_le items lo hi st) hsz))

theorem acc_setslice (x sl y : Addr) (cls : Value) (dx : Option Addr) (items : Array Value) (nn ny : Nat) (slots : Array (Option Value)) (i : Nat) (t : Tok) (hsz : items.size ≤ 4096) (hxy : x ≠ y) :
    Meets (Builtin.«list.__setitem__» ⟨[.ref x, .ref sl, .ref y], []⟩) (fun _ R s => s.heap.get? x = some ⟨cls, dx, .seq items nn, slots⟩ ∧ s.heap.IsSliceOf sl (.int (i : Int) t) .none .none ∧ s.heap.get? y = some ⟨.type "list", none, .seq #[] ny, #[]⟩ ∧
      R (.ok (.ret .none)) { s with heap := s.heap.update x (Obj.mapSeq fun xs => xs.extract 0 (min i items.size) ++ #[] ++ xs.extract items.size xs.size) }) :=
  .of_wp fun prog w A R s h => by
    obtain ⟨ho, hs, hy, h⟩ := h
    obtain ⟨os, hos, hcs, hds⟩ := id hs
    have hTs : s.TypeIs (.ref sl) "slice" := ⟨os, hos, hcs⟩
    have hTy : s.TypeIs (.ref y) "list" := ⟨_, hy, rfl⟩
    show wpAny _ _ (Builtin.List.listSubscript? (.ref sl) >>= _) _ _ s
    refine wpAny_bind ?_
    unfold Builtin.List.listSubscript?
    refine wpAny_bind (wpAny_specialOf hTs slice_no_index ?_)
    simp only [Option.isNone_none, if_true]
    refine wpAny_pure ?_
    show wpAny _ _ (typeOf (.ref sl) >>= _) _ _ s
    refine wpAny_bind (wpAny_typeOf hTs ?_)
    rw [if_neg (by decide)]
    rw [listSliceParts_eq]
    refine wpAny_bind (wpAny_bind (wpAny_field hos hds (x := .none) rfl (wpAny_bind (wpAny_listPart .none ?_))))
    rw [if_neg (by decide +kernel)]
    refine wpAny_bind (wpAny_field hos hds (x := .int (i : Int) t) rfl (wpAny_bind (wpAny_listPart (.int _ _) ?_)))
    refine wpAny_bind (wpAny_field hos hds (x := .none) rfl (wpAny_bind (wpAny_listPart .none (wpAny_pure ?_))))
    have hne : Builtin.List.listSameRef (.ref x) (.ref y) = false := by
      show (x == y) = false
      simpa using hxy
    rw [hne, if_neg (by decide)]
    refine wpAny_bind (m := Builtin.List.listAllItems (.ref y) _) ?_
    unfold Builtin.List.listAllItems
    refine wpAny_bind (wpAny_typeOf hTy ?_)
    rw [if_pos (by decide)]
    unfold Builtin.List.listItems
    refine wpAny_bind (wpAny_seqItems hy rfl (wpAny_pure ?_))
    refine wpAny_bind (wpAny_bind (wpAny_seqItems ho rfl (wpAny_pure ?_)))
    have hb : sliceIndices (rawPart (some (i : Int))) (rawPart none) (rawPart none) items.size = pure (((min i items.size : Nat) : Int), ((items.size : Nat) : Int), 1) := by
      rw [sliceIndices_raw (some (i : Int)) none none items.size (by simp), boundsFrom]
    refine wpAny_bind (wpAny_of_eq hb ?_)
    simp only []
    rw [if_pos (by decide)]
    refine wpAny_bind (wpAny_rule ?_)
    have hl2 : Builtin.List.listTooLong (items.size + (#[] : Array Value).size) = false := by
      unfold Builtin.List.listTooLong
      rw [sizeLine_eq]
      simp
      omega
    rw [hl2, if_neg (by decide)]
    have e2 : (max ((min i items.size : Nat) : Int) (items.size : Int)).toNat = items.size := by omega
    simp only [Int.toNat_natCast, e2]
    refine wpAny_bind (m := updateSeq x _) (wpAny_updateSeq ho rfl (hz := by rw [sizeLine_eq]; omega) (_hz' := by rw [sizeLine_eq]; simp; omega) ?_)
    exact wpAny_bind (wpAny_letGo (wpAny_pure ⟨_, rfl, h⟩))
end Mine
namespace Mine
open PySem PySem.W PyProof.Rows PySem.Builtin

section
variable {P : Params} {prog : Program} {w : World} {A : Around} {E : Value → Shared → Prop} {s : Shared} {x : Addr} {ox : Obj}
theorem acc_typeL {M : Model} {h : Heap} (hx : h.get? x = some ox) (hc : ox.cls = .ref 125) : Looks M h (typeOf (.ref x)) (.ref 125) := (Looks.ld hx).andThen (by rw [hc]; exact .now)
theorem acc_deque (P : Params) : mroIn (kfrag.heap_1 P) 125 (.type "collections.deque") = some false := by kernel_rfl
theorem acc_seqKey {k : Value} {name : Str} {Q : Value → Shared → Prop} (X : (kfrag.heap_1 P).In s.heap) (hx : s.heap.get? x = some ox) (hc : ox.cls = .ref 125) (h : Q k s) : wpAny (model prog w) A (sequenceKey (.ref x) k name) Q E s := by
  unfold sequenceKey
  refine wpAny_bind ((acc_typeL hx hc).here ?_)
  simp only []
  show wpAny _ _ (seqItemTypes.anyM (fun n => isSubtype (.ref 125) (.type n)) >>= _) _ _ s
  unfold seqItemTypes
  refine wpAny_bind (m := List.anyM _ _) ?_
  show wpAny _ _ (isSubtype (.ref 125) (.type "collections.deque") >>= _) _ _ s
  refine wpAny_bind ((looks_mroIn X (acc_deque P)).here ?_)
  exact wpAny_pure (wpAny_pure h)
theorem acc_special {M : Model} {h : Heap} {name : Str} {r : Option Value} (X : (kfrag.heap_1 P).In h) (hx : h.get? x = some ox) (hc : ox.cls = .ref 125) (hf : findIn (kfrag.heap_1 P) (.ref 125) name = some r) : Looks M h (specialOf (.ref x) name) r := by
  unfold specialOf
  exact (acc_typeL hx hc).andThen (looks_findIn X hf)
/-- getItem and setItem come down to list's own -/
theorem acc_getItem {i : Value} {Q : Value → Shared → Prop} (X : (kfrag.heap_1 P).In s.heap) (hx : s.heap.get? x = some ox) (hc : ox.cls = .ref 125)
    (h : wpAny (model prog w) A (PySem.call (.builtin "list.__getitem__") [.ref x, i]) Q E s) : wpAny (model prog w) A (getItem (.ref x) i) Q E s := by
  unfold getItem
  refine wpAny_holding (wpAny_bind (acc_seqKey X hx hc (wpAny_bind ?_)))
  unfold callSpecial?
  refine wpAny_bind ((acc_special X hx hc (r := some (.builtin "list.__getitem__")) (by kernel_rfl)).here ?_)
  simp only [slot_list_getitem.bind]
  refine wpAny_holding (wpAny_bind (wpAny_pure (wpAny_bind (wpAny_mono h (fun v s' h' => wpAny_pure (wpAny_pure h')) fun _ _ e => e))))
theorem acc_setItem {i v : Value} {Q : Unit → Shared → Prop} (X : (kfrag.heap_1 P).In s.heap) (hx : s.heap.get? x = some ox) (hc : ox.cls = .ref 125)
    (h : wpAny (model prog w) A (PySem.call (.builtin "list.__setitem__") [.ref x, i, v]) (fun _ => Q ()) E s) : wpAny (model prog w) A (setItem (.ref x) i v) Q E s := by
  unfold setItem
  refine wpAny_holding (wpAny_bind (acc_seqKey X hx hc (wpAny_bind ?_)))
  unfold callSpecial?
  refine wpAny_bind ((acc_special X hx hc (r := some (.builtin "list.__setitem__")) (by kernel_rfl)).here ?_)
  simp only [slot_list_setitem.bind]
  refine wpAny_holding (wpAny_bind (wpAny_pure (wpAny_bind (wpAny_mono h (fun v s' h' => wpAny_pure (wpAny_pure h')) fun _ _ e => e))))
end

section
variable {W : Wd} {n : Nat} {Γ : Sc} {P : Params}
/-- self[i:] -/
theorem Ref.fromA (af : AccF W P) {a b : PySem.Expr} {F G : C} {p pos : Pos} (ha : Ref W n Γ a F) (hb : Ref W n Γ b G) (ht : ∀ o r : Value, letTemporaryGo a o r = pure () := by intro _ _; rfl) :
    Ref W n Γ (.Subscript a (.Slice (some b) none none p) pos) (cFromA F G) := by
  intro A E s h₀ ρ φ env l H k Q hR hE R h hP
  rw [eval_Subscript]
  refine wpAny_bind (ha A E s h₀ ρ φ env l H _ _ hR hE R h fun v x ρ₁ H₁ s₁ p₁ R₁ r₁ h₁ => ?_)
  refine wpAny_bind (wpAny_holding (wpAny_Slice ?_))
  rw [evalPart_some]
  refine hb A E s₁ h₀ ρ₁ φ env l H₁ _ _ hR hE R₁ h₁ fun w y ρ₂ H₂ s₂ p₂ R₂ r₂ h₂ => ?_
  rw [evalPart_none]
  refine wpAny_pure (wpAny_pure ?_)
  obtain ⟨j, dk, vs, rfl, hacc, h3⟩ := asAcc_of h₂
  obtain ⟨i, rfl, h4⟩ := asNat_of h3
  obtain ⟨hci, h5⟩ := chk_of h4
  obtain ⟨hc, h6⟩ := chk_of h5
  have hz := PySem.W.Z.ble_iff.mp hc
  rw [lenL_eq] at hz
  rw [dropL_eq] at h6
  obtain ⟨t, rfl⟩ := r₂
  have R₃ := R₂.push { cls := .type "slice", data := .fields #[.int i t, .none, .none] } s₂.toks
  obtain ⟨adr, its, n', dx', sl', ea, ha', hob', hits', hdx'⟩ := R₃.h.accAt hacc (r₁.mono p₂)
  cases ea
  have hlen := hits'.len
  have hcl : (⟨.ref W.accC, some dx', .seq its.toArray n', sl'⟩ : Obj).cls = .ref 125 := by show Value.ref W.accC = _; rw [af.cls]
  have X := af.at_ R₃.h
  refine wpAny_bind (wpAny_standAt ?_)
  rw [getitemInPython_of_ne (by intro e; cases e)]
  refine wpAny_bind (wpAny_bind ((acc_special X hob' hcl (r := some (.builtin "list.__getitem__")) (by kernel_rfl)).here ?_))
  refine wpAny_pure (wpAny_bind (wpAny_operating ?_))
  refine wpAny_mono (Q := fun r s' => Q r s') (E := E) ?_ (fun r s' hq => wpAny_bind (wpAny_of_eq (ht _ _) (wpAny_pure hq))) fun _ _ e => e
  refine acc_getItem X hob' hcl (call_accB (n := "__getitem__") X hob' hcl (.inl (by decide +kernel)) (by decide +kernel) (args_list_getitem _ _) (by decide +kernel) entry_list_getitem
    (acc_getslice adr s₂.heap.objs.size _ _ its.toArray n' sl' (.int i t) .none .none (some (i : Int)) none none (.int _ _) .none .none (by simp) (by rw [List.size_toArray, sizeLine_eq]; omega)) ⟨hob', Heap.IsSliceOf.new .., ?_⟩)
  rw [pickFrom]
  have := ((hP.mono (p₁.trans p₂)).new R₃ (obList (hits'.drop i)) h6)
  exact this

/-- self[i:] = [] -/
theorem Ref1.cutA (af : AccF W P) {a b : PySem.Expr} {F G : C} {p p1 p2 pos : Pos} (ha : Ref W n Γ a F) (hb : Ref W n Γ b G) (hs : ∀ env : Env, swapsWith (.List [] p2) (some (.Subscript a (.Slice (some b) none none p) p1)) pos.line env = pure false := by intro _; rfl) :
    Ref1 W n Γ (.Assign [.Subscript a (.Slice (some b) none none p) p1] (.List [] p2) pos) (sCutA F G) := by
  intro A E s h₀ ρ φ env l H kn kr kb Q hR hE R h o
  have hcl0 : cList [] l H (fun e h => F l h fun a h => G l h fun b h => asList e h fun es => asAcc a h fun f vs => chk (Nat.beq (lenL es) 0) <| asNat b fun i => chk (Nat.blt i 4096) <| chk (Nat.ble (lenL vs) 4096) <| setO a (.acc f (takeL vs i)) h fun h => kn l h) = true := h
  refine wpAny_Assign_Subscript (Ref.list .nil (by decide) A E s h₀ ρ φ env l H _ _ hR hE R hcl0 fun ev ex ρ₀ H₀ s₀ p₀ R₀ r₀ h₀' => ?_) (hs env)
  refine ha A E s₀ h₀ ρ₀ φ env l H₀ _ _ hR hE R₀ h₀' fun v x ρ₁ H₁ s₁ p₁ R₁ r₁ h₁ => ?_
  refine wpAny_Slice ?_
  rw [evalPart_some]
  refine hb A E s₁ h₀ ρ₁ φ env l H₁ _ _ hR hE R₁ h₁ fun w y ρ₂ H₂ s₂ p₂ R₂ r₂ h₂ => ?_
  rw [evalPart_none]
  refine wpAny_pure (wpAny_pure ?_)
  obtain ⟨je, es, rfl, hel, h2⟩ := asList_of h₂
  obtain ⟨j, dk, vs, rfl, hacc, h3⟩ := asAcc_of h2
  obtain ⟨hc0, h3⟩ := chk_of h3
  obtain ⟨i, rfl, h4⟩ := asNat_of h3
  obtain ⟨hci, h5⟩ := chk_of h4
  obtain ⟨hc, h6⟩ := chk_of h5
  have hz := PySem.W.Z.ble_iff.mp hc
  rw [lenL_eq] at hz
  have he0 := Nat.eq_of_beq_eq_true hc0
  rw [lenL_eq] at he0
  have he1 : es = [] := List.eq_nil_of_length_eq_zero he0
  subst he1
  obtain ⟨t, rfl⟩ := r₂
  have R₃ := R₂.push { cls := .type "slice", data := .fields #[.int i t, .none, .none] } s₂.toks
  obtain ⟨adr, its, n', dx', sl', ea, ha', hob', hits', hdx'⟩ := R₃.h.accAt hacc (r₁.mono p₂)
  cases ea
  obtain ⟨ead, eits, rfl, hea, ⟨en, hep⟩, hev⟩ := R₃.h.listAt hel (r₀.mono (p₁.trans p₂))
  have hel2 := hev.len
  have he3 : eits = [] := List.eq_nil_of_length_eq_zero hel2.symm
  subst he3
  have hlen := hits'.len
  have hcl : (⟨.ref W.accC, some dx', .seq its.toArray n', sl'⟩ : Obj).cls = .ref 125 := by show Value.ref W.accC = _; rw [af.cls]
  have X := af.at_ R₃.h
  have hne : adr ≠ ead := by
    rintro rfl
    rw [hob'] at hep
    cases hep
  refine acc_setItem X hob' hcl (call_accB (n := "__setitem__") X hob' hcl (.inr (by decide +kernel)) (by decide +kernel) (args_list_setitem _ _ _) (by decide +kernel) entry_list_setitem
    (acc_setslice adr s₂.heap.objs.size ead _ _ its.toArray n' en sl' i t (by rw [List.size_toArray]; omega) hne) ⟨hob', Heap.IsSliceOf.new .., hep, ?_⟩)
  obtain ⟨n'', hup⟩ := acc_upd hob' fun xs => xs.extract 0 (min i its.toArray.size) ++ #[] ++ xs.extract its.toArray.size xs.size
  have hE2 : its.toArray.extract 0 (min i its.toArray.size) ++ #[] ++ its.toArray.extract its.toArray.size its.toArray.size = (its.take i).toArray := by
    simp
  rw [hE2] at hup
  have h7 : kn l ⟨H₂.t.put (.acc dk (vs.take i)) j, H₂.n⟩ = true := by
    have h7 : kn l ⟨H₂.t.put (.acc dk (takeL vs i)) j, H₂.n⟩ = true := h6
    rw [takeL_eq] at h7; exact h7
  exact o.nxt ρ₂ l _ _ (p₀.trans (p₁.trans p₂)) (R₃.upd (o := .acc dk (vs.take i)) ha' (Heap.SameBut.update ..).extBut ⟨its.take i, n'', dx', sl', hup, hits'.take i, hdx'⟩) h7
end
end Mine
namespace Mine
open PySem PySem.W PyProof.Rows PySem.Builtin
section
variable {W : Wd} {n : Nat} {Γ : Sc} {P : Params}
theorem useS {body : List Stmt} {b : S} {A : Around} {E : Value → Shared → Prop} {s : Shared} {h₀ : Heap} {ρ : List Addr} {φ : List Loc} {env : Env} {l : List V} {H : Hp} {kn : List V → Hp → Bool} {kr : K} {kb : List V → Hp → Bool} {Q : Flow → Shared → Prop}
    (hR : Room n A) (hE : EnvOK Γ φ env) (R : SR W φ h₀ ρ l H s) (h : b l H kn kr kb = true) (o : Outs W φ h₀ ρ kn kr kb Q) (hb : RefS W n Γ body b) : wpAny (model W.prog W.w) A (execs body env) Q E s :=
  hb A E s h₀ ρ φ env l H kn kr kb Q hR hE R h o
theorem call_push (af : AccF W P) : RefFn W (n + 3) 69 fPush := by
  have hf : (kfrag.heap_1 P).lookup 69 = some ⟨.type "function", _, .func _, _⟩ := rfl
  refine RefFn.of (n := n + 2) (Γ := ⟨_, [(("self" : Str), 0), ("fws", 1), ("string", 2)]⟩) (ns := ["self", "fws", "string"]) (ps := ["self", "fws", "string"]) (m := 0) ⟨⟨_, af.X _ _ hf, rfl⟩, codeRec_of af.X (by first | rfl | kernel_rfl), rfl, rfl, rfl⟩ rfl rfl
    ⟨by decide +kernel, by decide +kernel, by decide +kernel, by decide +kernel⟩ rfl rfl (fun vals hv => ?_)
    (RefS.cons (Ref1.expr (Ref.appA af (Ref.var (by decide +kernel)) (Ref.tup (.cons (Ref.var (by decide +kernel)) (by intro _ _; rfl) (.cons (Ref.var (by decide +kernel)) (by intro _ _; rfl) .nil))))) RefS.nil) rfl rfl
  match vals, hv with
  | [_, _, _], _ => rfl
theorem call_popFrom (af : AccF W P) : RefFn W (n + 3) 77 fPopFrom := by
  have hf : (kfrag.heap_1 P).lookup 77 = some ⟨.type "function", _, .func _, _⟩ := rfl
  have hd70 : (kfrag.heap_1 P).lookup 70 = some ⟨.type "tuple", _, .seq _ _, _⟩ := rfl
  refine RefFn.ofAt (n := n + 2) (Γ := ⟨_, [(("self" : Str), 0), ("i", 1), ("popped", 2)]⟩) (ns := ["self", "i", "popped"]) (ps := ["self", "i"]) (m := 1) (F := fun l h k => sBlock [sSet 2 (cFromA (cVar 0) (cVar 1)), sCutA (cVar 0) (cVar 1), sRet (cVar 2)] l h (fun _ h => k .none h) k (fun _ _ => false)) ⟨⟨_, af.X _ _ hf, rfl⟩, codeRec_of af.X (by first | rfl | kernel_rfl), rfl, rfl⟩ rfl rfl
    (by decide +kernel) (by decide +kernel) (by decide +kernel) (by decide +kernel) (by decide +kernel) rfl rfl (fun s vals hk hv => ?_) (fun A E s h₀ ρ φ env l H k Q hR hE hfu hco hce R h hP => ?_) rfl rfl
  · match vals, hv with
    | [_, _], _ => exact BindsTo.of_defaults rfl (hk _ _ (af.X _ _ hd70)) rfl rfl rfl
  · refine wpAt_of_wpAny (useS (Q := fun f s' => Q (match f with | .ret v => v | _ => .none) s') hR hE R h
      ⟨fun ρ' l' H' s' p R' h' => hP .none .none ρ' l' H' s' p R' rfl h', fun v x ρ' l' H' s' p R' r' h' => hP v x ρ' l' H' s' p R' r' h', fun ρ' l' H' s' p R' h' => absurd h' Bool.false_ne_true⟩ ?_)
    exact RefS.cons (Ref1.set (Ref.fromA af (Ref.var (by decide +kernel)) (Ref.var (by decide +kernel))) (by decide +kernel)) (RefS.cons (Ref1.cutA af (Ref.var (by decide +kernel)) (Ref.var (by decide +kernel))) (RefS.cons (Ref1.ret (Ref.var (by decide +kernel))) RefS.nil))
end
end Mine
namespace Mine
open PySem PySem.W PyProof.Rows PySem.Builtin

abbrev accObj (dx : Addr) : Obj := { cls := .ref 125, dict := some dx, data := .seq #[] }

section
variable {P : Params} {M : Model} {prog : Program} {w : World} {A : Around} {R : Result → Shared → Prop} {h : Heap} {g : Array GenState} {d : Drawn} {t : Nat} {os : OsState}
theorem acc_made (X : (kfrag.heap_1 P).In h) : Looks M h (Bind.madeBy (.ref 125)) (some "list.__new__") := by
  intro A Q E s k q
  have hC : h.get? 125 = some ⟨.type "type", _, .cls _, _⟩ := X 125 _ rfl
  have hm : Looks M h (mroOf (.ref 125)) [.ref 125, .type "list", .type "object"] := (looks_clsIn X rfl).andThen .now
  unfold Bind.madeBy
  refine wpAny_bind (hm A _ E s k ?_)
  rw [List.forIn_cons]
  refine wpAny_bind (wpAny_bind (wpAny_bind (wpAny_bind (wpAny_loadPart (k _ _ hC) (wpAny_pure ?_)))))
  exact wpAny_pure (wpAny_pure (wpAny_pure q))
theorem acc_base (X : (kfrag.heap_1 P).In h) : Looks M h (Bind.staticBase (.ref 125)) (.ref 125) := by
  intro A Q E s k q
  have hm : Looks M h (mroOf (.ref 125)) [.ref 125, .type "list", .type "object"] := (looks_clsIn X rfl).andThen .now
  unfold Bind.staticBase
  refine wpAny_bind (hm A _ E s k ?_)
  rw [List.forIn_cons]
  exact wpAny_bind (wpAny_bind (wpAny_bind (acc_made X A _ E s k (wpAny_pure (wpAny_pure (wpAny_pure q))))))
theorem newCheck (v : Value) : checkBuiltinCall "list.__new__" ⟨[.ref 125, v], []⟩ = checkBuiltinCall "list.__new__" ⟨[.ref 125, v], []⟩ := rfl
theorem kind_list_new : builtinKind "list.__new__" = some .builtinFn := by decide +kernel
theorem split_list_new : splitId "list.__new__" = some ("list", "__new__") := by decide +kernel
theorem entry_list_new' : entryFor table "list.__new__" = some Builtin.«list.__new__» := entryFor_of_tree (by kernel_rfl)

theorem acc_isType (X : (kfrag.heap_1 P).In h) : Looks M h (isType (.ref 125)) true := by
  intro A Q E s k q
  have hC : h.get? 125 = some ⟨.type "type", _, .cls _, _⟩ := X 125 _ rfl
  obtain ⟨hh, g, d, t, os⟩ := s
  exact ks_wpAny_isType_cls (k _ _ hC) rfl q
theorem acc_new {v : Value} (X : (kfrag.heap_1 P).In h)
    (hq : R (.ok (.ret (.ref (h.objs.size + 1)))) ⟨(h.push emptyDict).push (accObj h.objs.size), g, d, t, os⟩) :
    codeAny (model prog w) A (.call (.builtin "list.__new__") ⟨[.ref 125, v], []⟩) R ⟨h, g, d, t, os⟩ := by
  have l1 := acc_isType (M := model prog w) X
  have l2 : Looks (model prog w) h (isSubtype (.ref 125) (.type "list")) true := looks_mroIn X acc_list
  have l3 := acc_base (M := model prog w) X
  have l4 := acc_made (M := model prog w) X
  refine codeAny_call_builtin_code (Code.quiet_builtin _ (by decide +kernel)) ?_
  simp only [checkBuiltinCall, kind_list_new, split_list_new]
  repeat (first | simp only [bne_self_eq_false, Bool.false_eq_true, if_false] | lk)
  have hC : h.get? 125 = some ⟨.type "type", _, .cls _, _⟩ := X 125 _ rfl
  refine codeAny_builtin_stack entry_list_new' rfl fun p st => ?_
  have e : ("list.__new__".splitOn ".__new__").headD "" = "list" := by simp +decide [String.splitOn, String.splitOnAux]
  dsimp only
  repeat (first | (rw [e]) | simp only [Bool.not_true, Bool.false_eq_true, if_false] | lk)
  refine wpAny_loadPart (part := none) (Heap.get?_push_of_some _ (Heap.get?_push_of_some _ hC)) ?_
  refine wpAny_pure ?_
  rw [if_neg (by decide)]
  refine wpAny_pure (wpAny_pure ?_)
  show R _ _
  rw [Heap.size_push]
  exact hq

theorem acc_callS (X : (kfrag.heap_1 P).In h) : Looks M h (specialOf (.ref 125) "__call__") (some (.builtin "type.__call__")) := looks_specialIn X (by kernel_rfl)
theorem acc_typ (X : (kfrag.heap_1 P).In h) : Looks M h (isInstance (.ref 125) (.type "type")) true := looks_instIn X (by kernel_rfl)
theorem make_acc {v : Value} (X : (kfrag.heap_1 P).In h)
    (hq : codeAny (model prog w) (A.under (.builtin "type.__call__" ⟨[.ref 125, v], []⟩)) (.call (.ref 62) ⟨[.ref (h.objs.size + 1), v], []⟩) (InitBack (h.objs.size + 1) R) ⟨(h.push emptyDict).push (accObj h.objs.size), g, d, t, os⟩) :
    codeAny (model prog w) A (.call (.ref 125) ⟨[v], []⟩) R ⟨h, g, d, t, os⟩ := by
  have hC : h.get? 125 = some ⟨.type "type", _, .cls _, _⟩ := X 125 _ rfl
  have call := acc_callS (M := model prog w) X
  have typ := acc_typ (M := model prog w) X
  have made := acc_made (M := model prog w) X
  refine codeAny_of_tree ?_
  show wpAny _ _ (callAny (.ref 125) _) _ _ _
  refine nd_load hC ?_
  show wpAny _ _ (callAny.viaDunder (.ref 125) _) _ _ _
  unfold callAny.viaDunder
  refine wpAny_bind (call.at ?_)
  dsimp only
  rw [tc_bind]
  refine wpAny_bind (wpAny_pure (wpAny_bind (wpAny_pure ?_)))
  refine wpAny_pure (a := Fin.again (.call (.builtin "type.__call__") ⟨[.ref 125, v], []⟩)) (And.intro rfl ?_)
  refine codeAny_call_builtin_at (Code.quiet_builtin _ (by decide +kernel)) entry_typeCall (check_slot tc_kind tc_split typ (tc_args _ _ _) ?_)
  unfold Builtin.«type.__call__»
  have hm : Looks (model prog w) h (mroOf (.ref 125)) [.ref 125, .type "list", .type "object"] := (looks_clsIn X rfl).andThen .now
  repeat (first | simp only [List.isEmpty_cons, Bool.false_eq_true, if_false] | with_reducible refine wpAny_call ?_ | lk)
  refine acc_new X ?_
  have k : ∀ b o, h.get? b = some o → ((h.push emptyDict).push (accObj h.objs.size)).get? b = some o := fun b o e => Heap.get?_push_of_some _ (Heap.get?_push_of_some _ e)
  have hx : ((h.push emptyDict).push (accObj h.objs.size)).get? (h.objs.size + 1) = some (accObj h.objs.size) := by heap_get
  have X' := X.keeps k
  have t1 : Looks (model prog w) ((h.push emptyDict).push (accObj h.objs.size)) (typeOf (.ref (h.objs.size + 1))) (.ref 125) := (Looks.ld hx).andThen .now
  have s1 : Looks (model prog w) ((h.push emptyDict).push (accObj h.objs.size)) (isSubtype (.ref 125) (.ref 125)) true := looks_mroIn X' rfl
  have i1 : Looks (model prog w) ((h.push emptyDict).push (accObj h.objs.size)) (typeLookup (.ref 125) "__init__") (some (.ref 62)) := looks_findIn X' (by kernel_rfl)
  have b1 : Looks (model prog w) ((h.push emptyDict).push (accObj h.objs.size)) (bindSpecial (.ref 62) (.ref (h.objs.size + 1))) (.ref 62, [.ref (h.objs.size + 1)]) := bind_fn X' _ rfl
  unfold isInstance callSpecial? specialOf
  repeat (first | with_reducible refine wpAny_call ?_ | lk)
  refine codeAny_mono hq fun r s' z => ?_
  rcases r with e | (v | _ | _ | _) <;> first | exact z | exact z.elim | skip
  obtain ⟨rfl, z⟩ := z
  exact wpAny_pure (wpAny_pure z)
end
end Mine
namespace Mine
open PySem PySem.W PyProof.Rows PySem.Builtin

theorem acc_refuse (self : Value) : refuseLoop self "__setattr__" [.ref 125, .type "list", .type "object"] = pure () := by
  rw [refuseLoop_ref]
  kernel_rfl
theorem acc_setF (P : Params) : findIn (kfrag.heap_1 P) (.ref 125) "__setattr__" = some (some (.builtin "object.__setattr__")) := by kernel_rfl
theorem acc_sizeF (P : Params) : findIn (kfrag.heap_1 P) (.ref 125) "_initial_size" = some none := by kernel_rfl
theorem acc_object : ∀ P : Params, mroIn (kfrag.heap_1 P) 125 (.type "object") = some true := fun P => rfl

section
variable {P : Params} {prog : Program} {w : World} {A : Around} {E : Value → Shared → Prop} {s : Shared} {x dx : Addr} {ox : Obj} {R : Result → Shared → Prop}
theorem acc_osa {v : Value} {tk : Tok} (X : (kfrag.heap_1 P).In s.heap) (hx : s.heap.get? x = some ox) (hc : ox.cls = .ref 125) (hd : ox.dict = some dx) (hdx : s.heap.get? dx = some emptyDict)
    (h : R (.ok (.ret .none)) { s with heap := s.heap.update dx (Obj.putName "_initial_size" (PyData.keyHash w.params "_initial_size") (.str "_initial_size" s.toks) v), toks := s.toks + 1 }) :
    codeAny (model prog w) A (.call (.builtin "object.__setattr__") ⟨[.ref x, .str "_initial_size" tk, v], []⟩) R s := by
  have SF := PySem.F.store_object
  have tp := acc_typeL (M := model prog w) hx hc
  have sub : Looks (model prog w) s.heap (isInstance (.ref x) (.type "object")) true := tp.andThen (looks_mroIn X (acc_object P))
  refine codeAny_call_builtin SF.slot.plain SF.entry (@check_slot (model prog w) _ _ s "object.__setattr__" "object" "__setattr__" (.ref x) [.str "_initial_size" tk, v] [] _ SF.kind SF.split sub (SF.args (.ref x) (.str "_initial_size" tk) v) ?_)
  have hm : Looks (model prog w) s.heap (mroOf (.ref 125)) [.ref 125, .type "list", .type "object"] := (looks_clsIn X rfl).andThen .now
  have hcl : Looks (model prog w) s.heap (classData 125) _ := looks_clsIn X rfl
  rw [osa_eq, refuse_eq]
  refine wpAny_bind (wpAny_bind (tp.here (wpAny_bind (hm.here ?_))))
  rw [acc_refuse]
  refine wpAny_pure (wpAny_bind (tp.here (wpAny_bind ((looks_findIn X (acc_sizeF P)).here (wpAny_bind (wpAny_pure ?_))))))
  obtain ⟨oc, odi, oda, osl⟩ := ox
  dsimp only at hc hd
  subst hc hd
  refine wpAny_bind (wpAny_pure (wpAny_bind (wpAny_bind (wpAny_loadPart hx (wpAny_bind (hcl.here ?_))))))
  rw [if_neg (by decide)]
  refine wpAny_pure (a := some dx) (wpAny_bind (wpAny_pure (wpAny_bind ?_)))
  unfold nsSet
  refine wpAny_bind (wpAny_bind (wpAny_askSetting (wpAny_pure (wpAny_bind (wpAny_mkText (wpAny_bind (wpAny_loadPart hdx ?_)))))))
  dsimp only
  rw [aRefKeyMayBeTheName_at]
  have e1 : (!(#[] : Array DictEntry).any (·.key.isStr "_initial_size") && (#[] : Array DictEntry).any (·.refKey)) = false := by simp
  rw [e1]
  refine wpAny_updatePart hdx ?_
  have hup : (s.heap.update dx (Obj.putName "_initial_size" (PyData.keyHash w.params "_initial_size") (.str "_initial_size" s.toks) v)).get? dx = some (dictOf [⟨PyData.keyHash w.params "_initial_size", .str "_initial_size" s.toks, v⟩] 1) := Heap.get?_update_self _ hdx rfl
  refine wpAny_bind (wpAny_lookBehind hup (by exact pastItsLine_dict (by rw [List.size_toArray, sizeLine_eq]; simp)) ?_)
  exact wpAny_pure h
theorem osa_bind (self : Value) : bindSpecial (.builtin "object.__setattr__") self = pure (.builtin "object.__setattr__", [self]) := PySem.F.store_object.slot.bind self
theorem acc_setAttr {v : Value} {Q : Unit → Shared → Prop} (X : (kfrag.heap_1 P).In s.heap) (hx : s.heap.get? x = some ox) (hc : ox.cls = .ref 125) (hd : ox.dict = some dx) (hdx : s.heap.get? dx = some emptyDict)
    (h : ∀ h' t, h'.get? dx = some (dictOf [⟨PyData.keyHash w.params "_initial_size", .str "_initial_size" t, v⟩] 1) → Heap.SameBut dx s.heap h' → Q () { s with heap := h', toks := s.toks + 2 }) :
    wpAny (model prog w) A (setAttr (.ref x) "_initial_size" v) Q E s := by
  obtain ⟨hh, g, d, tk, os⟩ := s
  unfold setAttr callSpecial?
  refine wpAny_bind (wpAny_mkText (wpAny_bind (wpAny_bind ((acc_special (h := hh) X hx hc (acc_setF P)).at ?_))))
  simp only [osa_bind]
  refine wpAny_holding (wpAny_bind (wpAny_pure (wpAny_bind (wpAny_call (acc_osa (s := ⟨hh, g, d, tk + 1, os⟩) (R := wants _ _) X hx hc hd hdx ?_)))))
  exact wpAny_pure (wpAny_pure (h _ _ (Heap.get?_update_self _ hdx rfl) (Heap.SameBut.update ..)))
end
end Mine
namespace Mine
open PySem PySem.W PyProof.Rows PySem.Builtin

theorem cb_init (x : Addr) : checkBoundCall "list.__init__" ⟨[.ref x], []⟩ = pure () := by kernel_rfl
theorem acc_linit (x : Addr) (cls : Value) (dx : Option Addr) (nn : Nat) (sl : Array (Option Value)) :
    Meets (Builtin.«list.__init__» ⟨[.ref x], []⟩) (fun _ R s => s.heap.get? x = some ⟨cls, dx, .seq #[] nn, sl⟩ ∧ R (.ok (.ret .none)) { s with heap := s.heap.update x (Obj.mapSeq fun _ => #[]) }) :=
  .of_wp fun prog w A R s h => by
    obtain ⟨ho, h⟩ := h
    show wpAny _ A.in1 (do let old ← Builtin.List.listItems (.ref x); Builtin.List.listUpdate (.ref x) (fun _ => #[]); letGo old.toList.reverse; ret .none) _ _ s
    refine wpAny_bind ?_
    unfold Builtin.List.listItems
    refine wpAny_bind (wpAny_seqItems ho rfl (wpAny_pure ?_))
    show wpAny _ A.in1 (updateSeq x (fun _ => #[]) >>= fun _ => letGo (#[] : Array Value).toList.reverse >>= fun _ => ret .none) _ _ s
    refine wpAny_bind (wpAny_updateSeq ho rfl (hz := by rw [sizeLine_eq]; simp) ?_)
    exact wpAny_bind (wpAny_letGo (wpAny_pure ⟨_, rfl, h⟩))

section
variable {W : Wd} {n : Nat} {Γ : Sc} {P : Params}
/-- an object that stands is taken on -/
theorem HR.takeOn {h₀ : Heap} {ρ : List Addr} {H : Hp} {s : Shared} (R : HR W h₀ ρ H s) {a : Addr} {o : Ob} (ha : a ∉ ρ) (h0 : h₀.get? a = none) (ho : OB W (ρ ++ [a]) s.heap a o) : HR W h₀ (ρ ++ [a]) ⟨H.t.put o H.n, H.n.succ⟩ s := by
  have pre : ρ <+: ρ ++ [a] := List.prefix_append _ _
  refine ⟨by simp [R.len], List.nodup_append.mpr ⟨R.nd, by simp, fun x hx y hy => by simp at hy; subst hy; exact fun e => ha (e ▸ hx)⟩, fun k o' e => ?_, fun b hb => ?_, R.keep, fun b hb => ?_, R.base, R.os, R.bare, R.bok⟩
  · rcases Tr.get_put o H.t H.n k e with ⟨rfl, rfl⟩ | ⟨_, e'⟩
    · exact ⟨a, by rw [← R.len]; simp, ho⟩
    · obtain ⟨b, hb, hob⟩ := R.obj k o' e'
      exact ⟨b, get_pre pre hb, hob.mono pre⟩
  · rcases List.mem_append.mp hb with h | h
    · exact R.live b h
    · simp at h; subst h; exact ho.some
  · rcases List.mem_append.mp hb with h | h
    · exact R.sep b h
    · simp at h; subst h; exact h0
/-- a held object is changed and stands for the same -/
theorem HR.same {h₀ : Heap} {ρ : List Addr} {H : Hp} {s s' : Shared} (R : HR W h₀ ρ H s) {k : Nat} {a : Addr} (ha : ρ[k]? = some a)
    (hk : ∀ b o, b ≠ a → s.heap.get? b = some o → s'.heap.get? b = some o) (ho : ∀ o, H.t.get k = some o → OB W ρ s'.heap a o) (hl : ∃ o, s'.heap.get? a = some o) (hos : s'.os = s.os := by rfl) (hgn : s'.gens = s.gens := by rfl) : HR W h₀ ρ H s' := by
  have hm := List.mem_of_getElem? ha
  refine ⟨R.len, R.nd, fun j o' e => ?_, fun b hb => ?_, fun b o' e => hk b o' (fun q => ?_) (R.keep b o' e), R.sep, R.base, hos.trans R.os, hgn ▸ R.bare, R.bok⟩
  · by_cases hj : j = k
    · subst hj
      exact ⟨a, ha, ho _ e⟩
    · obtain ⟨b, hb, hob⟩ := R.obj j o' e
      refine ⟨b, hb, hob.at fun ob q => hk b ob (fun hba => hj ?_) q⟩
      subst hba
      obtain ⟨h1, e1⟩ := List.getElem?_eq_some_iff.mp hb
      obtain ⟨h2, e2⟩ := List.getElem?_eq_some_iff.mp ha
      exact nodup_inj R.nd h1 h2 (e1.trans e2.symm)
  · by_cases q : b = a
    · subst q; exact hl
    · obtain ⟨o', e⟩ := R.live b hb; exact ⟨o', hk b o' q e⟩
  · subst q; rw [R.sep b hm] at e; cases e

theorem w_tc (v : Value) : (Code.builtin "type.__call__" ⟨[.ref 125, v], []⟩).weight ≤ 4 := by
  have h : (Code.builtin "type.__call__" ⟨[.ref 125, v], []⟩).weight = 1 := by kernel_rfl
  omega
theorem u_tc (v : Value) : (Code.builtin "type.__call__" ⟨[.ref 125, v], []⟩).cUnits ≤ 40 := by
  have h : (Code.builtin "type.__call__" ⟨[.ref 125, v], []⟩).cUnits = 1 := by kernel_rfl
  omega
/-- _Accumulator(first) -/
theorem Ref.newAcc (af : AccF W P) {a : PySem.Expr} {F : C} {p pos : Pos} (hx : Γ.sc.names.lookup ("_Accumulator" : Str) = some .globalImplicit) (hg : W.mg "_Accumulator" = some (.ref 125)) (ha : Ref W (n + 2) Γ a F)
    (hs : ∀ (rest : List PySem.Expr) (env : Env), starEach (a :: rest) env = (false, PySem.eval a env) :: starEach rest env := by intro _ _; rfl) : Ref W (n + 2) Γ (.Call (.Name "_Accumulator" p) [a] [] pos) (cOp1 oNewAcc F) := by
  intro A E s h₀ ρ φ env l H k Q hR hE R h hP
  have e1 : backTo pos (starEach [a] env) = [(false, PySem.eval a env)] := by rw [hs]; rfl
  refine wpAny_Call_NameR (load_glob hE R.h hx hg (by decide +kernel) ?_)
  rw [e1]
  refine callWith_of (P := fun h => (kfrag.heap_1 P).In h) rfl (keeps_K (by kernel_rfl)) (Calls.evalArgs_plain (Calls.spliced_cons (ha A E s h₀ ρ φ env l H _ _ hR hE R h fun v x ρ₁ H₁ s₁ p₁ R₁ r₁ h₁ => Calls.spliced_nil ⟨af.at_ R₁.h, ?_⟩)))
  obtain ⟨f, rfl, h2⟩ := asInt_of h₁
  obtain ⟨u, rfl⟩ := r₁
  obtain ⟨hh, g, d, t, os⟩ := s₁
  refine wpAny_call (make_acc (af.at_ R₁.h) ?_)
  have hX := af.at_ R₁.h
  have k0 : ∀ b o, hh.get? b = some o → ((hh.push emptyDict).push (accObj hh.objs.size)).get? b = some o := fun b o e => Heap.get?_push_of_some _ (Heap.get?_push_of_some _ e)
  have Xp : (kfrag.heap_1 P).In ((hh.push emptyDict).push (accObj hh.objs.size)) := hX.keeps k0
  have hf : (kfrag.heap_1 P).lookup 62 = some ⟨.type "function", _, .func _, _⟩ := rfl
  have hd54 : (kfrag.heap_1 P).lookup 54 = some ⟨.type "tuple", _, .seq _ _, _⟩ := rfl
  have hsz : ((hh.push emptyDict).push (accObj hh.objs.size)).objs.size = hh.objs.size + 2 := by rw [Heap.size_push, Heap.size_push]
  refine ks_codeAny_call_defAt (s := ⟨(hh.push emptyDict).push (accObj hh.objs.size), g, d, t, os⟩) (binds := [("self", .ref (hh.objs.size + 1)), ("initial_size", .int f u)]) ((hR.under (c := .builtin "type.__call__" ⟨[.ref 125, .int f u], []⟩) (w_tc _) (u_tc _)).depth) (Xp _ _ hf) rfl ((R₁.h.bok.nolimit.keeps R₁.h.baseS).keeps k0) (codeRec_of Xp (by first | rfl | kernel_rfl)) rfl (BindsTo.of_defaults rfl (Xp _ _ hd54) rfl rfl rfl) (by decide +kernel) (fun y hy => ?_) (fun h₁ hns hk1 => ?_) rfl rfl rfl
  · rcases List.mem_cons.mp hy with rfl | hy
    · rfl
    · rcases List.mem_cons.mp hy with rfl | hy
      · rfl
      · cases hy
  have hdx0 : ((hh.push emptyDict).push (accObj hh.objs.size)).get? hh.objs.size = some emptyDict := by heap_get
  have hx0 : ((hh.push emptyDict).push (accObj hh.objs.size)).get? (hh.objs.size + 1) = some (accObj hh.objs.size) := by heap_get
  refine ks_wpAt_execs_cons (ks_wpAt_Assign_Attr (wpAt_of_wpAny (wpAny_Name (wpAny_loadName_local rfl rfl hns (v := .int f u) rfl (wpAny_Name (wpAny_loadName_local rfl rfl hns (v := .ref (hh.objs.size + 1)) rfl
    (acc_setAttr (Xp.keeps hk1) (hk1 _ _ hx0) rfl rfl (hk1 _ _ hdx0) fun h2' t' hd2 hsb => ?_)) (by decide +kernel))) (by decide +kernel))))
  generalize hLL : ((hh.push emptyDict).push (accObj hh.objs.size)).objs.size = L at hns hk1 ⊢
  have hLs : L = hh.objs.size + 2 := hLL.symm.trans hsz
  have hk2 : ∀ b o, hh.get? b = some o → h2'.get? b = some o := fun b o e => hsb.extBut b o (Nat.ne_of_lt (Heap.lt_size e)) (hk1 _ _ (k0 b o e))
  have hx2 : h2'.get? (hh.objs.size + 1) = some (accObj hh.objs.size) := hsb.extBut _ _ (Nat.succ_ne_self _) (hk1 _ _ hx0)
  have hL2 : h2'.Ns L (fun x => List.lookup x [(("self" : Str), Value.ref (hh.objs.size + 1)), ("initial_size", .int f u)].reverse) := by
    obtain ⟨oL, es, ep, hL, r⟩ := hns
    exact ⟨oL, es, ep, hsb.extBut L oL (by rw [hLs]; exact Nat.ne_of_gt (by omega)) hL, r⟩
  have fresh := PV.fresh R₁ (pv := [hh.objs.size, hh.objs.size + 1, L]) (fun a ha => by
    simp at ha
    rcases ha with rfl | rfl | rfl
    · exact Nat.le_refl _
    · exact Nat.le_succ _
    · rw [hLs]; exact Nat.le_add_right _ 2)
  have none0 : ∀ a : Nat, hh.objs.size ≤ a → (mask hh ρ₁).get? a = none := fun a ha => by
    cases e : (mask hh ρ₁).get? a with
    | none => rfl
    | some o => exact absurd (Heap.lt_size (mask_sub e).1) (Nat.not_lt.mpr ha)
  have RH : ∀ tk, HR W (mask hh ρ₁) ρ₁ H₁ ⟨h2', g, d, tk, os⟩ := fun tk => R₁.h.called (s₁ := ⟨h2', g, d, tk, os⟩) hk2 rfl rfl
  have hlen := R₁.h.len
  have hmem1 : hh.objs.size ∉ ρ₁ := (fresh _ (by simp)).1
  have hmem2 : hh.objs.size + 1 ∉ ρ₁ ++ [hh.objs.size] := fun hm => by
    rcases List.mem_append.mp hm with q | q
    · exact (fresh (hh.objs.size + 1) (by simp)).1 q
    · simp at q
  have RH1 := fun tk => (RH tk).takeOn (a := hh.objs.size) (o := .inst f) hmem1 (none0 _ (Nat.le_refl _)) ⟨_, _, _, _, hd2⟩
  have hga : (ρ₁ ++ [hh.objs.size] ++ [hh.objs.size + 1])[H₁.n]? = some hh.objs.size := by rw [← hlen]; simp
  have hgb : (ρ₁ ++ [hh.objs.size] ++ [hh.objs.size + 1])[H₁.n + 1]? = some (hh.objs.size + 1) := by rw [← hlen]; simp
  have RH2 := fun tk => (RH1 tk).takeOn (a := hh.objs.size + 1) (o := .acc H₁.n []) hmem2 (none0 _ (Nat.le_succ _)) ⟨[], 0, hh.objs.size, #[], by rw [af.cls]; exact hx2, trivial, hga⟩
  have FRn : ∀ tk, FR [Loc.var L "self", Loc.var L "initial_size"] (mask hh ρ₁) (ρ₁ ++ [hh.objs.size] ++ [hh.objs.size + 1]) [.ref (H₁.n + 1), .int f] ⟨h2', g, d, tk, os⟩ := fun tk => by
    refine ⟨rfl, fun lc h => ?_, fun i lc x e1 e2 hx => ?_, ?_, fun lc h => ?_, fun lc h => ?_⟩
    · simp at h
      rcases h with rfl | rfl <;> exact ⟨_, hL2⟩
    · match i, e1, e2 with
      | 0, e1, e2 => cases e1; cases e2; exact ⟨_, ⟨_, hL2, rfl⟩, ⟨_, hgb, rfl⟩⟩
      | 1, e1, e2 => cases e1; cases e2; exact ⟨_, ⟨_, hL2, rfl⟩, ⟨_, rfl⟩⟩
      | i + 2, e1, e2 => simp at e1
    · refine List.pairwise_cons.mpr ⟨fun b hb => ?_, by simp⟩
      simp at hb
      subst hb
      exact .inr (by decide +kernel)
    · have hL : L ∉ ρ₁ ++ [hh.objs.size] ++ [hh.objs.size + 1] := fun hm => by
        simp at hm
        rcases hm with q | q | q
        · exact (fresh L (by simp)).1 q
        · rw [hLs] at q; omega
        · rw [hLs] at q; omega
      simp at h
      rcases h with rfl | rfl <;> exact hL
    · have := none0 L (by rw [hLs]; exact Nat.le_add_right _ 2)
      simp at h
      rcases h with rfl | rfl <;> exact this
  have SR2 := fun tk => (SR.mk (RH2 tk) (FRn tk))
  refine ks_wpAt_execs_cons (ks_wpAt_Expr_any (super_call0G (Γ := ⟨_, [(("self" : Str), 0), ("initial_size", 1)]⟩) (name := "__init__") (Good := fun adr its nn dx sl => adr = hh.objs.size + 1 ∧ its = [] ∧ dx = hh.objs.size) af ⟨rfl, rfl, rfl, rfl, fun x i hx => ?_⟩ (SR2 _) rfl hf rfl rfl rfl rfl rfl rfl rfl rfl rfl (by intro e; cases e)
    (fun v hv => ?_) rfl rfl (.inr rfl) rfl type_list_init' slot_wd_get entry_wd_get args_wd_get (fun _ _ _ hI A E g d t os Q q => wd_get_init hI q) (by decide +kernel) PySem.F.entry_list_init
        (fun _ _ _ _ _ _ _ _ _ q => wpAny_of_eq (cb_init _) q) fun adr its nn dx sl s₃ hob hgood hk3 hos hg => ?_) rfl rfl)
  · have hm := mem_of_lookup hx
    simp at hm
    rcases hm with ⟨rfl, rfl⟩ | ⟨rfl, rfl⟩
    · exact ⟨_, rfl, .inl ⟨rfl, rfl⟩⟩
    · exact ⟨_, rfl, .inl ⟨rfl, rfl⟩⟩
  · obtain ⟨b, hb, rfl⟩ : ∃ b, (ρ₁ ++ [hh.objs.size] ++ [hh.objs.size + 1])[H₁.n + 1]? = some b ∧ v = .ref b := hv
    rw [hgb] at hb
    cases hb
    exact ⟨_, [], 0, hh.objs.size, #[], rfl, by rw [af.cls]; exact hx2, rfl, rfl, rfl⟩
  · obtain ⟨rfl, rfl, rfl⟩ := hgood
    refine ⟨_, acc_linit _ _ _ nn sl, fun _ => ⟨hob, ?_⟩⟩
    refine wpAt_of_wpAny (wpAny_pure ?_)
    refine ⟨rfl, ?_⟩
    obtain ⟨n', hup⟩ := acc_upd hob fun _ => #[]
    have R3 := ((RH2 s₃.toks).ext (s' := s₃) hk3 hos hg)
    have R4 := R3.same (s' := { s₃ with heap := s₃.heap.update (hh.objs.size + 1) (Obj.mapSeq fun _ => #[]) }) hgb (Heap.SameBut.update ..).extBut (fun o ho => ?_) ⟨_, hup⟩
    · exact hP _ (.ref (H₁.n + 1)) _ _ _ (p₁.trans ((List.prefix_append _ _).trans (List.prefix_append _ _))) (R₁.back R4 ((List.prefix_append _ _).trans (List.prefix_append _ _))) ⟨_, hgb, rfl⟩ h2
    · rcases Tr.get_put _ _ _ _ ho with ⟨_, rfl⟩ | ⟨q, _⟩
      · exact ⟨[], n', hh.objs.size, sl, by rw [af.cls]; exact hup, trivial, hga⟩
      · exact absurd rfl q
end
end Mine
namespace Mine
open PySem PySem.W PyProof.Rows PySem.Builtin

section
variable {P : Params} {prog : Program} {w : World} {A : Around} {E : Value → Shared → Prop} {s : Shared} {I x : Addr} {ox : Obj} {items : Array Value} {nn : Nat}
theorem acc_next {i : Nat} {y : Value} {Q : Option Value → Shared → Prop} (hit : s.heap.IsListIter I x i) (hol : s.heap.get? x = some ox) (hdl : ox.data = .seq items nn) (hx : items[i]? = some y)
    (hQ : ∀ h', h'.IsListIter I x (i + 1) → Heap.SameBut I s.heap h' → Q (some y) { s with heap := h' }) : wpAny (model prog w) A (pyNext (.ref I)) Q E s := by
  obtain ⟨o, ho, hc, hd⟩ := id hit
  unfold pyNext
  refine wpAny_bind (wpAny_attempt (wpAny_callSpecial?_slot (name := Str.ofString "__next__") hit.typeIs slot_listiter_next
    (wpAny_call_entry slot_listiter_next hit.typeIs entry_listiter_next ?_ (args_listiter_next _))))
  show wpAny _ _ (field (.ref I) 0 >>= _) _ _ s
  refine wpAny_bind (wpAny_field ho hd (x := .ref x) rfl ?_)
  show wpAny _ _ (if (Value.ref x == Value.none) = true then _ else _) _ _ s
  rw [if_neg (show ¬ ((Value.ref x == Value.none) = true) from Bool.false_ne_true)]
  show wpAny _ _ (field (.ref I) 1 >>= _) _ _ s
  refine wpAny_bind (wpAny_field ho hd (x := .int i 0) rfl ?_)
  show wpAny _ _ (seqItems? (.ref x) >>= _) _ _ s
  refine wpAny_bind (wpAny_seqItems hol hdl ?_)
  simp only [Int.toNat_natCast, hx]
  refine wpAny_bind (wpAny_setField ho hd (by simp) (wpAny_pure ⟨y, rfl, wpAny_pure (hQ _ ?_ (Heap.SameBut.update ..))⟩))
  exact ⟨_, Heap.get?_update_self _ ho (Obj.isFreed_of_fields (Obj.data_mapFields hd _)), (Obj.cls_mapFields ..).trans hc, by
    rw [Obj.data_mapFields hd]; simp [rawInt]⟩
theorem acc_iter {Q : Value → Shared → Prop} (X : (kfrag.heap_1 P).In s.heap) (hx : s.heap.get? x = some ox) (hc : ox.cls = .ref 125)
    (hQ : Q (.ref s.heap.objs.size) { s with heap := s.heap.push { cls := .type "list_iterator", data := .fields #[.ref x, .int 0 0] } }) : wpAny (model prog w) A (pyIter (.ref x)) Q E s := by
  have h1 := acc_special (M := model prog w) X hx hc (r := some (.builtin "list.__iter__")) (name := "__iter__") (by kernel_rfl)
  have run : ∀ {A : Around} {E : Value → Shared → Prop} {Q : Value → Shared → Prop}, Q (.ref s.heap.objs.size) { s with heap := s.heap.push { cls := .type "list_iterator", data := .fields #[.ref x, .int 0 0] } } →
      wpAny (model prog w) A (PySem.call (.builtin "list.__iter__") [.ref x]) Q E s := fun {A E Q} q => by
    refine wpAny_call (codeAny_call_builtin (by decide +kernel) entry_list_iter (check_method (n := "__iter__") (.inr (by decide +kernel)) (by decide +kernel) ((acc_typeL hx hc).andThen (looks_mroIn X acc_list)) (args_list_iter _) ?_))
    show wpAny _ _ (do ret (← newFields "list_iterator" [.ref x, rawInt 0])) _ _ s
    exact wpAny_bind (wpAny_newObj_type (wpAny_pure q))
  unfold pyIter
  refine wpAny_bind (h1.here ?_)
  unfold callSpecialIfBoundUnlessNone? bindSpecialIfBound?
  refine wpAny_bind (wpAny_holding (wpAny_bind (wpAny_bind (h1.here ?_))))
  simp only [slot_list_iter.bind]
  refine wpAny_bind (wpAny_askSetting (wpAny_ite ?_))
  have fin : ∀ {refuse : Sem Value} {Q' : Option Value → Shared → Prop}, Q' (some (.ref s.heap.objs.size)) { s with heap := s.heap.push { cls := .type "list_iterator", data := .fields #[.ref x, .int 0 0] } } →
      wpAny (model prog w) A (if (Value.builtin "list.__iter__" == Value.none) = true then (refuse >>= fun v => pure (some v)) else (PySem.call (.builtin "list.__iter__") [.ref x] >>= fun v => pure (some v))) Q' E s := fun {refuse Q'} q => by
    simp only [builtin_beq_none, Bool.false_eq_true, if_false]
    exact wpAny_bind (run (wpAny_pure q))
  have hT : ({ s with heap := s.heap.push { cls := .type "list_iterator", data := .fields #[.ref x, .int 0 0] } } : Shared).TypeIs (.ref s.heap.objs.size) "list_iterator" := ⟨_, Heap.get?_push_size _ rfl, rfl⟩
  have last : wpAny (model prog w) A (specialOf (.ref s.heap.objs.size) "__next__" >>= fun r => match r with
      | none => (do rule "iter.non-iterator"; raiseError "TypeError" s!"iter() returned non-iterator of type '{← typeNameOf (.ref s.heap.objs.size)}'")
      | some _ => pure (.ref s.heap.objs.size)) Q E { s with heap := s.heap.push { cls := .type "list_iterator", data := .fields #[.ref x, .int 0 0] } } := wpAny_bind (wpAny_specialOf hT slot_listiter_next.lookup (wpAny_pure hQ))
  split
  · exact wpAny_bind (wpAny_pure (wpAny_pure (fin last)))
  · exact wpAny_tryCatch (wpAny_bind (wpAny_pure (wpAny_pure (fin last))))
theorem acc_end {i : Nat} {Q : Option Value → Shared → Prop} (hh : A.handled = none) (hit : s.heap.IsListIter I x i) (hol : s.heap.get? x = some ox) (hdl : ox.data = .seq items nn) (hx : items[i]? = none)
    (hQ : ∀ h', Heap.ExtBut I s.heap h' → Q none { s with heap := h' }) : wpAny (model prog w) A (pyNext (.ref I)) Q E s := by
  obtain ⟨o, ho, hc, hd⟩ := id hit
  unfold pyNext
  refine wpAny_bind (wpAny_attempt (wpAny_callSpecial?_slot (name := Str.ofString "__next__") hit.typeIs slot_listiter_next
    (wpAny_call_entry slot_listiter_next hit.typeIs entry_listiter_next ?_ (args_listiter_next _))))
  show wpAny _ _ (field (.ref I) 0 >>= _) _ _ s
  refine wpAny_bind (wpAny_field ho hd (x := .ref x) rfl ?_)
  show wpAny _ _ (if (Value.ref x == Value.none) = true then _ else _) _ _ s
  rw [if_neg (show ¬ ((Value.ref x == Value.none) = true) from Bool.false_ne_true)]
  show wpAny _ _ (field (.ref I) 1 >>= _) _ _ s
  refine wpAny_bind (wpAny_field ho hd (x := .int i 0) rfl ?_)
  show wpAny _ _ (seqItems? (.ref x) >>= _) _ _ s
  refine wpAny_bind (wpAny_seqItems hol hdl ?_)
  simp only [Int.toNat_natCast, hx]
  refine wpAny_bind (wpAny_rule (wpAny_bind (wpAny_setField ho hd (by simp) ?_)))
  show wpAny _ _ (newExc (.type "StopIteration") [] >>= _) _ _ _
  refine wpAny_bind ?_
  simp only [newExc, newTuple]
  refine wpAny_bind (wpAny_newObj_type ?_ (by size_fits))
  refine wpAny_bind (m := firstArgMember _ _) (wpAny_of_eq (a := Value.none) (by first | rfl | (simp only [firstArgMember]; rfl)) ?_)
  refine wpAny_newObj_type ?_ (by size_fits)
  simp only [raiseNew]
  refine wpAny_bind (wpAny_handled ?_)
  rw [show A.in1.handled = none from hh]
  refine wpAny_bind (wpAny_pure (wpAny_throw ?_))
  refine wpAny_bind (wpAny_isInstance (T := "StopIteration") (b := true) ⟨_, Heap.get?_push_size _ rfl, rfl⟩ isSubtype_stop ?_)
  exact wpAny_pure (hQ _ (((Heap.SameBut.update ..).extBut.push _).push _))
end

/-- the pieces of the pile, each a tuple of two -/
abbrev Piece := Addr × Value × Value
def PiecesAt (TS : List Piece) (h : Heap) : Prop := ∀ p ∈ TS, ∃ n, h.get? p.1 = some { cls := .type "tuple", data := .seq #[p.2.1, p.2.2] n }
theorem walksAcc {prog : Program} {w : World} {A : Around} (hh : A.handled = none) {I x : Addr} {ox : Obj} {nn : Nat} (TS : List Piece) (hdl : ox.data = .seq (TS.map fun p => Value.ref p.1).toArray nn) (hI : I ≠ x) (hT : ∀ p ∈ TS, p.1 ≠ I) :
    WalksU prog w A I (I :: x :: TS.map (·.1)) [I] TS.length (fun i vals => ∃ p, TS[i]? = some p ∧ vals = #[p.2.1, p.2.2])
      (fun i h => h.IsListIter I x i ∧ h.get? x = some ox ∧ PiecesAt TS h) (fun i T h => (h.IsListIter I x (i + 1) ∧ h.get? x = some ox ∧ PiecesAt TS h) ∧ T ≠ I) where
  sub := fun b hb => by simp at hb; subst hb; simp
  frame := fun i h h' st hk => by
    obtain ⟨⟨o, ho, r⟩, hx, hp⟩ := st
    refine ⟨⟨o, hk I (by simp) o ho, r⟩, hk x (by simp) _ hx, fun p hm => ?_⟩
    obtain ⟨n, e⟩ := hp p hm
    exact ⟨n, hk p.1 (by simp only [List.mem_cons, List.mem_map]; exact .inr (.inr ⟨p, hm, rfl⟩)) _ e⟩
  item := fun i s Q E hi st hQ => by
    obtain ⟨hit, hx, hp⟩ := st
    obtain ⟨p, hpi⟩ : ∃ p, TS[i]? = some p := ⟨_, List.getElem?_eq_getElem hi⟩
    have hm := List.mem_of_getElem? hpi
    refine acc_next hit hx hdl (y := .ref p.1) (by simp [hpi]) fun h' hi' hsb => ?_
    have up : ∀ b o, b ≠ I → s.heap.get? b = some o → h'.get? b = some o := fun b o hb e => hsb.extBut b o hb e
    have hp' : PiecesAt TS h' := fun q hq => by obtain ⟨n, e⟩ := hp q hq; exact ⟨n, up _ _ (hT q hq) e⟩
    obtain ⟨n, e⟩ := hp' p hm
    exact hQ p.1 _ h' s.toks ⟨p, hpi, rfl⟩ ⟨_, e, rfl, n, rfl⟩ ⟨⟨hi', up _ _ (Ne.symm hI) hx, hp'⟩, hT p hm⟩ fun b o hb e => up b o (by simpa using hb) e
  go := fun elts k pos i T s Q E mid hQ => wpAny_letOwnedTupleGo_listiter mid.1.1 (hQ s.heap mid.1 fun _ _ _ e => e)
  apart := fun i T h mid => by simpa using mid.2
  done := fun s Q E st hQ => acc_end hh st.1 st.2.1 hdl (by simp) fun h' he => hQ h' s.toks fun b o hb e => he b o (by simpa using hb) e
  self := fun i s Q E st h => wpAny_pyIter_listiter st.1 h
end Mine
namespace Mine
open PySem PySem.W PyProof.Rows PySem.Builtin

def shiftV (f : Int) (val : Nat → Int) : Nat → Int
  | 0 => f
  | i + 1 => val i
theorem preSum_shift (f : Int) (val : Nat → Int) : ∀ n, preSum (shiftV f val) (n + 1) = f + preSum val n
  | 0 => by simp [preSum, shiftV]
  | n + 1 => by
    show preSum (shiftV f val) (n + 1) + shiftV f val (n + 1) = _
    rw [preSum_shift f val n]
    show f + preSum val n + val n = f + (preSum val n + val n)
    omega
theorem walksShift {prog : Program} {w : World} {A : Around} {I : Addr} {fp wr : List Addr} {G : Array GenState → Array GenState → Prop} {n : Nat} {P : Nat → Value → Prop} {St : Nat → Shared → Prop} (W : WalksS prog w A I fp wr G n P St) :
    WalksS prog w A I fp wr G (n + 1) (fun i v => ∃ j, i = j + 1 ∧ P j v) (fun i s => ∃ j, i = j + 1 ∧ St j s) where
  sub := W.sub
  grefl := W.grefl
  gtrans := W.gtrans
  frame := fun i s h' tk ⟨j, e, st⟩ ht hk => ⟨j, e, W.frame j s h' tk st ht hk⟩
  item := fun i s Q E hi ⟨j, e, st⟩ hQ => W.item j s Q E (by omega) st fun v s' hP hst hm => hQ v s' ⟨j, e, hP⟩ ⟨j + 1, by omega, hst⟩ hm
  done := fun s Q E ⟨j, e, st⟩ hQ => by
    have : j = n := by omega
    subst this
    exact W.done s Q E st hQ
  self := fun i s Q E ⟨j, e, st⟩ h => W.self j s Q E st h
theorem args_sum2 (a b : Value) : argsOk "sum" ⟨[a, b], []⟩ := by unfold argsOk; kernel_rfl

section
variable {prog : Program} {w : World} {A : Around} {E : Value → Shared → Prop} {s : Shared}
theorem call_sum_start {x : Value} {f : Int} {u : Tok} {Q : Value → Shared → Prop}
    (h : wpAny (model prog w) A.in1 (pyIter x) (fun it s₂ => ∃ I fp wr G n P St val, it = .ref I ∧ WalksS prog w A.in1 I fp wr G n P St ∧ St 0 s₂ ∧ (∀ b ∈ fp, b < s₂.heap.objs.size) ∧
      (∀ i v, P i v → ∃ t, v = .int (val i) t) ∧
      ∀ s' t', Moved wr G s₂ s' → Q (.int (f + preSum val n) t') s') E s) :
    wpAny (model prog w) A (PySem.call (.builtin "sum") [x, .int f u]) Q E s := by
  refine call_function_tree PySem.F.kind_sum PySem.F.plain_sum PySem.F.entry_sum (args_sum2 _ _) ?_
  unfold Builtin.«sum»
  simp only [List.length_cons, List.length_nil]
  rw [if_neg (by decide)]
  refine wpAny_bind (wpAny_of_eq (show Builtin.Builtins.bindParams "sum" ["start"] 0 ⟨[.int f u], []⟩ = pure [some (.int f u)] from rfl) ?_)
  refine wpAny_bind (wpAny_mono h (fun it s₂ h₂ => ?_) fun _ _ e => e)
  obtain ⟨I, fp, wr, G, n, P, St, val, rfl, W, hst, hfp, hval, hQ⟩ := h₂
  have hSf : s₂.heap.objs.size ∉ fp := fun hm => Nat.lt_irrefl _ (hfp _ hm)
  have hp1 : preSum (shiftV f val) 1 = f := by rw [preSum_shift]; simp [preSum]
  dsimp only
  split
  · refine wpAny_bind (wpAny_rule (wpAny_bind (wpAny_mkInt (wpAny_bind (wpAny_pure ?_)))))
    simp only [List.forIn_cons, List.forIn_nil]
    refine wpAny_bind (wpAny_bind (wpAny_bind (wpAny_isInstance (T := "int") (b := false) (typeIs_int _ _ _) PySem.sub_int_str ?_)))
    simp only [Bool.false_eq_true, if_false]
    refine wpAny_pure (wpAny_bind (wpAny_bind (wpAny_isInstance (T := "int") (b := false) (typeIs_int _ _ _) PySem.sub_int_bytes ?_)))
    simp only [Bool.false_eq_true, if_false]
    refine wpAny_pure (wpAny_bind (wpAny_bind (wpAny_isInstance (T := "int") (b := false) (typeIs_int _ _ _) PySem.sub_int_bytearray ?_)))
    simp only [Bool.false_eq_true, if_false]
    refine wpAny_pure (wpAny_pure ?_)
    refine wpAny_bind (wpAny_newObj_type ?_)
    refine wpAny_pure ⟨plainId_quiet PySem.F.plain_sum_loop _, codeAny_sum_loopAnyS (walksShift W) (shiftV f val) (fun i v ⟨j, e, hP⟩ => by subst e; exact hval j v hP) s₂.heap.objs.size hSf n 1 _ _ 0 0 (.inl rfl) rfl (by omega)
      ⟨0, rfl, W.frame 0 s₂ _ _ hst (by first | exact Nat.le_refl _ | exact Nat.le_succ _ | omega) fun b _ o e => Heap.get?_push_of_some _ e⟩ (by rw [hp1]; exact Heap.get?_push_size _ rfl) fun s' t' hm => ?_⟩
    rw [preSum_shift]
    exact hQ s' t' (hm.drop_new (by first | exact Nat.le_refl _ | exact Nat.le_succ _ | omega))
  · refine wpAny_bind (wpAny_pure ?_)
    simp only [List.forIn_cons, List.forIn_nil]
    refine wpAny_bind (wpAny_bind (wpAny_bind (wpAny_isInstance (T := "int") (b := false) (typeIs_int _ _ _) PySem.sub_int_str ?_)))
    simp only [Bool.false_eq_true, if_false]
    refine wpAny_pure (wpAny_bind (wpAny_bind (wpAny_isInstance (T := "int") (b := false) (typeIs_int _ _ _) PySem.sub_int_bytes ?_)))
    simp only [Bool.false_eq_true, if_false]
    refine wpAny_pure (wpAny_bind (wpAny_bind (wpAny_isInstance (T := "int") (b := false) (typeIs_int _ _ _) PySem.sub_int_bytearray ?_)))
    simp only [Bool.false_eq_true, if_false]
    refine wpAny_pure (wpAny_pure ?_)
    refine wpAny_bind (wpAny_newObj_type ?_)
    refine wpAny_pure ⟨plainId_quiet PySem.F.plain_sum_loop _, codeAny_sum_loopAnyS (walksShift W) (shiftV f val) (fun i v ⟨j, e, hP⟩ => by subst e; exact hval j v hP) s₂.heap.objs.size hSf n 1 _ _ 0 2 (.inr rfl) rfl (by omega)
      ⟨0, rfl, W.frame 0 s₂ _ _ hst (by first | exact Nat.le_refl _ | exact Nat.le_succ _ | omega) fun b _ o e => Heap.get?_push_of_some _ e⟩ (by rw [hp1]; exact Heap.get?_push_size _ rfl) fun s' t' hm => ?_⟩
    rw [preSum_shift]
    exact hQ s' t' (hm.drop_new (by first | exact Nat.le_refl _ | exact Nat.le_succ _ | omega))
end
end Mine
namespace Mine
open PySem PySem.W PyProof.Rows PySem.Builtin

def pieceLen (TS : List Piece) (i : Nat) : Int := match TS[i]? with
  | some (_, .str a _, .str b _) => (a.length : Int) + (b.length : Int)
  | _ => 0
def Texts (TS : List Piece) : Prop := ∀ p ∈ TS, ∃ a ta b tb, p.2 = (.str a ta, .str b tb) ∧ a.length ≤ 4096 ∧ b.length ≤ 4096

section
variable {prog : Program} {w : World} {A : Around} {E : Value → Shared → Prop}
/-- len(x) of a text, in the generator's frame -/
theorem genLen {s : Shared} {env : Env} {x : Str} {p1 p2 p3 : Pos} {a : Str} {ta : Tok} {m mg mb : Str → Option Value} {Q : Value → Shared → Prop} (hk : env.scope.kind = .function) (hl : env.kindOf "len" = some .globalImplicit) (hx : env.kindOf x = some .local)
    (hg : s.heap.Ns env.globals mg) (hgn : mg "len" = none) (hb : s.heap.Ns env.builtins mb) (hbn : mb "len" = some (.builtin "len")) (hn : s.heap.Ns env.locals m) (hm : m x = some (.str a ta)) (hz : a.length ≤ 4096) (hd : (x == ("__debug__" : Str)) = false)
    (h : ∀ tk, Q (.int (a.length : Int) tk) { s with toks := tk + 1 }) : wpAny (model prog w) A (PySem.eval (.Call (.Name "len" p1) [.Name x p2] [] p3) env) Q E s := by
  refine wpAny_Call_NameR (Calls.Name_function_global hk hl (Calls.loadGlobal_builtin hg hgn hb hbn ?_) (by decide +kernel))
  refine Calls.callWith_builtin rfl (Calls.evalArgs_plain (Calls.spliced_cons (wpAny_Name (wpAny_loadName_local hk hx hn hm (Calls.spliced_nil ?_)) hd)))
  refine PySem.P.len_str (by omega) ?_
  exact h _
theorem quietLen {w : World} {cenv : Env} {TS : List Piece} {I : Addr} {N : Nat} {mg mb : Str → Option Value} {href : Heap} {p1 p2 p3 p4 p5 p6 p7 : Pos} (hT : Texts TS)
    (hk : cenv.scope.kind = .function) (hl : cenv.kindOf "len" = some .globalImplicit) (hx : cenv.kindOf "fws" = some .local) (hy : cenv.kindOf "part" = some .local)
    (hg : href.Ns cenv.globals mg) (hgn : mg "len" = none) (hb : href.Ns cenv.builtins mb) (hbn : mb "len" = some (.builtin "len")) (hgN : cenv.globals < N) (hbN : cenv.builtins < N) (hgI : cenv.globals ≠ I) (hbI : cenv.builtins ≠ I) :
    QuietGenT prog w cenv "fws" "part" [] (.BinOp (.Call (.Name "len" p1) [.Name "fws" p2] [] p3) .Add (.Call (.Name "len" p4) [.Name "part" p5] [] p6) p7) (List.range N) [I]
      (fun i vals => ∃ p, TS[i]? = some p ∧ vals = #[p.2.1, p.2.2]) (fun _ => true) (fun i v => ∃ t, v = .int (pieceLen TS i) t) href where
  tests := fun A' E' i va vb s₂ m₂ hh hp hn h1 h2 hkp => by
    show wpAny _ _ (pure true) _ _ _
    exact wpAny_pure ⟨rfl, s₂.heap, s₂.toks, rfl, fun _ _ e => e⟩
  elt := fun A' E' i va vb s₂ m₂ hh hp _ hn h1 h2 hkp => by
    obtain ⟨p, hpi, hv⟩ := hp
    obtain ⟨a, ta, b, tb, ep, hza, hzb⟩ := hT p (List.mem_of_getElem? hpi)
    rw [ep] at hv
    have hva : va = .str a ta := by have := congrArg (fun z : Array Value => z[0]?) hv; simpa using this
    have hvb : vb = .str b tb := by have := congrArg (fun z : Array Value => z[1]?) hv; simpa using this
    have hg2 : ∀ tk, ({ s₂ with toks := tk } : Shared).heap.Ns cenv.globals mg := fun tk => by
      obtain ⟨o, es, ep', e, r⟩ := hg
      exact ⟨o, es, ep', hkp _ (List.mem_range.mpr hgN) (by simpa using hgI) o e, r⟩
    have hb2 : ∀ tk, ({ s₂ with toks := tk } : Shared).heap.Ns cenv.builtins mb := fun tk => by
      obtain ⟨o, es, ep', e, r⟩ := hb
      exact ⟨o, es, ep', hkp _ (List.mem_range.mpr hbN) (by simpa using hbI) o e, r⟩
    refine wpAny_BinOp (genLen (a := a) (ta := ta) hk hl hx (hg2 s₂.toks) hgn (hb2 s₂.toks) hbn hn (by rw [h1, hva]) hza (by decide +kernel) fun tk => ?_)
    refine genLen (a := b) (ta := tb) hk hl hy (hg2 _) hgn (hb2 _) hbn hn (by rw [h2, hvb]) hzb (by decide +kernel) fun tk' => ?_
    refine PySem.P.add_int ?_
    have e : pieceLen TS i = (a.length : Int) + (b.length : Int) := by
      unfold pieceLen
      rw [hpi]
      obtain ⟨p0, p12⟩ := p
      have ep : p12 = (.str a ta, .str b tb) := ep
      subst ep
      rfl
    rw [e]
    exact ⟨⟨tk' + 1, rfl⟩, s₂.heap, tk' + 1 + 1, rfl, fun _ _ e => e⟩
end
end Mine
namespace Mine
open PySem PySem.W PyProof.Rows PySem.Builtin

theorem entry_list_ga : entryFor table "list.__getattribute__" = some Builtin.«object.__getattribute__» :=
  entryFor_alias (id' := "object.__getattribute__") (by kernel_rfl) rfl (by decide +kernel) (by kernel_rfl)
theorem lga_bind (self : Value) : bindSpecial (.builtin "list.__getattribute__") self = pure (.builtin "list.__getattribute__", [self]) :=
  (Slot.of (T := "list") (name := "__getattribute__") (owner := "list") (n := "__getattribute__") (by rw [typeLookup_type, builtinLookup_eq_fast]; kernel_rfl) (by decide +kernel) (by decide +kernel) (by decide +kernel)
    (.inl (by decide +kernel)) (by rw [isSubtype_type]; kernel_rfl)).bind self
theorem lga_args (a b : Value) : argsOk "list.__getattribute__" ⟨[a, b], []⟩ := by unfold argsOk; kernel_rfl
theorem ownSize {P : Params} {hs : Int} {t u m : Nat} {f : Int} : findObj (kfrag.heap_1 P) 125 (some (dictOf [⟨hs, .str (Str.ofString "_initial_size") t, .int f u⟩] m)) "_initial_size" = some (.value (.int f u)) := by
  first | rfl | kernel_rfl

theorem lga_plain : plainId "list.__getattribute__" = true := by decide +kernel
theorem lga_split : splitId "list.__getattribute__" = some ("list", "__getattribute__") := by decide +kernel
theorem lga_kind : builtinKind "list.__getattribute__" = some .slot := by simp only [builtinKind, lga_split]; decide +kernel
theorem call_lga {P : Params} {prog : Program} {w : World} {A : Around} {E : Value → Shared → Prop} {s : Shared} {x : Addr} {v name : Value} {Q : Value → Shared → Prop} (hI : Looks (model prog w) s.heap (isInstance (.ref x) (.type "list")) true)
    (hq : wpAny (model prog w) A.in1 (Builtin.«object.__getattribute__» ⟨[.ref x, name], []⟩) (fun fin s' => fin = .done (.ret v) ∧ Q v s') (fun _ _ => False) s) : wpAny (model prog w) A (PySem.call (.builtin "list.__getattribute__") [.ref x, name]) Q E s := by
  refine wpAny_call (codeAny_call_builtin lga_plain entry_list_ga (@check_method (model prog w) _ _ s "list.__getattribute__" "list" "__getattribute__" (.ref x) [name] [] _ (.inr lga_kind) lga_split hI (lga_args (.ref x) name) ?_))
  refine wpAny_mono hq (fun fin s' h => ?_) fun _ _ h => h.elim
  obtain ⟨rfl, h⟩ := h
  exact h
section
variable {P : Params} {prog : Program} {w : World} {A : Around} {E : Value → Shared → Prop} {s : Shared} {x : Addr} {ox : Obj}
theorem acc_getSize {hs : Int} {t u m : Nat} {f : Int} {Q : Value → Shared → Prop} (X : (kfrag.heap_1 P).In s.heap) (I : InstAt s.heap x ox 125 (some (dictOf [⟨hs, .str (Str.ofString "_initial_size") t, .int f u⟩] m)))
    (h : Q (.int f u) { s with toks := s.toks + 1 }) {expr : Bool} : wpAny (model prog w) A (getAttr (.ref x) "_initial_size" expr) Q E s := by
  obtain ⟨hh, g, d, tk, os⟩ := s
  have L0 := I.type (M := model prog w)
  have L1 := looks_findIn (M := model prog w) X (acc_ga P)
  have L2 := looks_find (M := model prog w) X I ownSize
  have L3 := looks_findIn (M := model prog w) X (acc_gattr P)
  have L4 : Looks (model prog w) hh (isInstance (.ref x) (.type "list")) true := L0.andThen (looks_mroIn X acc_list)
  unfold getAttr getAttrBy
  refine wpAny_bind (wpAny_mkText (wpAny_holding (wpAny_bind (L0.at (wpAny_bind (L1.at ?_))))))
  show wpAny _ _ (getAttrByItsOwn (.ref x) (.str "_initial_size" tk) (.ref 125) (.builtin "list.__getattribute__") true expr) _ _ _
  unfold getAttrByItsOwn hookBefore callGetattribute
  refine wpAny_bind (L3.at ?_)
  rw [if_neg (by cases expr <;> decide +kernel)]
  unfold boundAndCalled
  refine wpAny_bind (wpAny_attempt (wpAny_holding ?_))
  refine wpAny_bind (wpAny_of_eq (lga_bind _) ?_)
  show wpAny _ _ (PySem.call (.builtin "list.__getattribute__") [.ref x, .str "_initial_size" tk]) _ _ _
  refine call_lga (P := P) (v := .int f u) L4 ?_
  show wpAny _ _ (typeOf (.ref x) >>= _) _ _ _
  refine wpAny_bind (L0.at (wpAny_bind (L2.at ?_)))
  refine wpAny_pure ⟨rfl, ?_⟩
  exact wpAny_pure h
end
end Mine
namespace Mine
open PySem PySem.W PyProof.Rows PySem.Builtin

theorem pieceLen_cons (p : Piece) (TS : List Piece) : pieceLen (p :: TS) = shiftV (pieceLen (p :: TS) 0) (pieceLen TS) := by
  funext i
  cases i <;> rfl
theorem preSum_cons (p : Piece) (TS : List Piece) : preSum (pieceLen (p :: TS)) (p :: TS).length = pieceLen (p :: TS) 0 + preSum (pieceLen TS) TS.length := by
  rw [pieceLen_cons p TS]
  exact preSum_shift _ _ _

section
variable {W : Wd} {n : Nat} {Γ : Sc} {P : Params}
theorem sumT_of {h₀ : Heap} {ρ : List Addr} {H : Hp} {s : Shared} (R : HR W h₀ ρ H s) : ∀ {vs : List V} {its : List Value} {a : Int} {k : Int → Bool}, VRs ρ vs its → sumT H vs a k = true →
    ∃ TS : List Piece, its = TS.map (fun p => Value.ref p.1) ∧ PiecesAt TS s.heap ∧ Texts TS ∧ k (a + preSum (pieceLen TS) TS.length) = true
  | [], [], a, k, _, h => ⟨[], rfl, fun _ h => (nomatch h), fun _ h => (nomatch h), by
    have e : a + preSum (pieceLen []) ([] : List Piece).length = a := by simp [preSum]
    rw [e]; exact h⟩
  | x :: vs, v :: its, a, k, ⟨r1, r2⟩, h => by
    have h' : asTup x H (fun ws => match ws with
      | [.str s, .str t] => chk (Nat.ble (lenL s) 4096) (chk (Nat.ble (lenL t) 4096) (sumT H vs (a + Int.ofNat (lenL s + lenL t)) k))
      | _ => false) = true := h
    obtain ⟨j, ws, rfl, e, h1⟩ := asTup_of h'
    obtain ⟨T, tis, rfl, hT, ⟨nt, hTup⟩, hvs⟩ := R.tupAt e r1
    match ws, tis, hvs, h1 with
    | [.str x, .str y], [v1, v2], ⟨⟨t1, e1⟩, ⟨t2, e2⟩, _⟩, h1 =>
      obtain ⟨c1, h2⟩ := chk_of h1
      obtain ⟨c2, h3⟩ := chk_of h2
      subst e1 e2
      obtain ⟨TS, e3, hp, ht, h4⟩ := sumT_of R r2 h3
      have z1 := PySem.W.Z.ble_iff.mp c1
      have z2 := PySem.W.Z.ble_iff.mp c2
      rw [lenL_eq] at z1 z2
      refine ⟨(T, .str (toStr x) t1, .str (toStr y) t2) :: TS, by rw [e3]; rfl, fun p hp' => ?_, fun p hp' => ?_, ?_⟩
      · rcases List.mem_cons.mp hp' with rfl | q
        · exact ⟨nt, hTup⟩
        · exact hp p q
      · rcases List.mem_cons.mp hp' with rfl | q
        · exact ⟨_, _, _, _, rfl, by rw [toStr_len]; exact z1, by rw [toStr_len]; exact z2⟩
        · exact ht p q
      · rw [preSum_cons]
        have : pieceLen ((T, .str (toStr x) t1, .str (toStr y) t2) :: TS) 0 = Int.ofNat (lenL x + lenL y) := by
          show ((toStr x).length : Int) + ((toStr y).length : Int) = _
          rw [toStr_len, toStr_len, lenL_eq, lenL_eq]; rfl
        rw [this]
        have e5 : a + (Int.ofNat (lenL x + lenL y) + preSum (pieceLen TS) TS.length) = a + Int.ofNat (lenL x + lenL y) + preSum (pieceLen TS) TS.length := by omega
        rw [e5]; exact h4
    | [], _, _, h1 => exact absurd h1 Bool.false_ne_true
    | [_], _, _, h1 => exact absurd h1 (by simp)
    | .str _ :: .str _ :: _ :: _, _, _, h1 => exact absurd h1 Bool.false_ne_true
  | [], _ :: _, _, _, r, _ => r.elim
  | _ :: _, [], _, _, r, _ => r.elim
end
end Mine
namespace Mine
open PySem PySem.W PyProof.Rows PySem.Builtin

theorem passing_all (n : Nat) : passing (fun _ => true) n 0 = List.range n := by
  unfold passing; simp

/-- the module's builtins -/
structure BuiltM (W : Wd) : Prop where
  m : ∃ bm ob, BMod W.hB mainGlobals W.mg bm ob

section
variable {W : Wd} {n : Nat} {Γ : Sc} {P : Params}
theorem SR.tabbed {φ : List Loc} {h₀ : Heap} {ρ : List Addr} {l : List V} {H : Hp} {s s' : Shared} (R : SR W φ h₀ ρ l H s) (h0 : H.t.get 0 = some .tab) (hk : ∀ b o, b ≠ (87 : Nat) → s.heap.get? b = some o → s'.heap.get? b = some o)
    (ht : ∃ ps, s'.heap.get? 87 = some (tabObj ps) ∧ TriplesOk ps.toList) (hos : s'.os = s.os) (hg : AllBare s'.gens) : SR W φ h₀ ρ l H s' := by
  obtain ⟨a, ha, e87, _⟩ := R.h.obj 0 _ h0
  subst e87
  obtain ⟨ps, ht1, ht2⟩ := ht
  refine ⟨?_, R.f.upd (List.mem_of_getElem? ha) hk⟩
  have hgn : HR W h₀ ρ H { s' with gens := s.gens } := R.h.same (s' := { s' with gens := s.gens }) ha hk (fun o e => by rw [h0] at e; cases e; exact ⟨rfl, ps, ht1, ht2⟩) ⟨_, ht1⟩ hos rfl
  exact ⟨hgn.len, hgn.nd, hgn.obj, hgn.live, hgn.keep, hgn.sep, hgn.base, hgn.os, hg, hgn.bok⟩
theorem SR.tabAt {φ : List Loc} {h₀ : Heap} {ρ : List Addr} {l : List V} {H : Hp} {s : Shared} (R : SR W φ h₀ ρ l H s) (h0 : H.t.get 0 = some .tab) : ∃ ps : Array Value, s.heap.get? 87 = some (tabObj ps) ∧ TriplesOk ps.toList := by
  obtain ⟨a, ha, e87, ps, h1, h2⟩ := R.h.obj 0 _ h0
  subst e87
  exact ⟨ps, h1, h2⟩

theorem gen_pile (af : AccF W P) (bu : BuiltM W) {φ : List Loc} {h₀ : Heap} {ρ : List Addr} {l : List V} {H : Hp} {s : Shared} {env : Env} {A : Around} {E : Value → Shared → Prop} {Q : Value → Shared → Prop} {TS : List Piece}
    {scope : Scope} {kt : Nat} {pos pa pb pt ps p1 p2 p3 p4 p5 p6 p7 : Pos} {adr : Addr} {ox : Obj} {nn j : Nat}
    (hR : Room n A) (hE : EnvOK Γ φ env) (R : SR W φ h₀ ρ l H s) (hcode : env.code = .ref 91) (hx : Γ.names.lookup ("self" : Str) = some 0) (hl : l[0]? = some (.ref j)) (hj : ρ[j]? = some adr) (h0 : H.t.get 0 = some .tab)
    (hob : s.heap.get? adr = some ox) (hcl : ox.cls = .ref 125) (hdt : ox.data = .seq (TS.map fun p => Value.ref p.1).toArray nn) (hp : PiecesAt TS s.heap) (hT : Texts TS)
    (hco : scope.isCoroutine = false) (hfree : ∀ x ∈ scope.names, x.2 ≠ .free) (hcell : ∀ y ∈ scope.names, y.2 ≠ .cell) (hd0 : scope.names.lookup (".0" : Str) = some NameKind.local)
    (hxa : scope.names.lookup ("fws" : Str) = some .local) (hxb : scope.names.lookup ("part" : Str) = some .local) (hxl : scope.names.lookup ("len" : Str) = some .globalImplicit) (hkind : scope.kind = .function)
    (hQ : ∀ (a : Addr) (s' : Shared), SR W φ h₀ ρ l H s' → (∀ b o, b ≠ (87 : Nat) → s.heap.get? b = some o → s'.heap.get? b = some o) →
      (∃ fp wr g St F, WalksS W.prog W.w A.in4 a fp wr (GenOnlyQ g) TS.length F St ∧ St 0 s' ∧ (∀ b ∈ fp, b < s'.heap.objs.size) ∧ (∀ b ∈ wr, s.heap.objs.size ≤ b) ∧ ∀ i v, F i v → ∃ t, v = .int (pieceLen TS i) t) → Q (.ref a) s') :
    wpAny (model W.prog W.w) A (PySem.eval (.GeneratorExp (.BinOp (.Call (.Name "len" p1) [.Name "fws" p2] [] p3) .Add (.Call (.Name "len" p4) [.Name "part" p5] [] p6) p7) [⟨.Tuple [.Name "fws" pa, .Name "part" pb] kt pt, .Name "self" ps, [], 0⟩] scope pos) env) Q E s := by
  obtain ⟨bm, bo, M⟩ := bu.m
  have hd : CodeHd W.hB 91 87 := codeHd_of_K af.X (by kernel_rfl)
  refine wpAny_GeneratorExp_walksQT hR.hd hco (closureFor_none hfree) hcell hd0 hxa hxb (by decide +kernel) hkind hR.depth ?_ (by intro _; rfl)
  refine wpAny_Name (load_slot hE R.f hx hl (by intro e; cases e) (by decide +kernel) fun v hv => ?_) (by decide +kernel)
  obtain ⟨adr', hj', rfl⟩ : ∃ b, ρ[j]? = some b ∧ v = .ref b := hv
  rw [hj] at hj'; cases hj'
  refine acc_iter (af.at_ R.h) hob hcl ?_
  have hlt : ∀ {b : Addr} {o : Obj}, s.heap.get? b = some o → @LT.lt Nat _ b s.heap.objs.size := fun e => Heap.lt_size e
  obtain ⟨ps, htb, htr⟩ := R.tabAt h0
  -- behind the iterator
  generalize hs₂ : ({ s with heap := s.heap.push { cls := .type "list_iterator", data := .fields #[.ref adr, .int 0 0] } } : Shared) = s₂
  have k₂ : ∀ b o, s.heap.get? b = some o → s₂.heap.get? b = some o := fun b o e => by subst hs₂; exact Heap.get?_push_of_some _ e
  have sz₂ : s₂.heap.objs.size = s.heap.objs.size + 1 := by subst hs₂; exact Heap.size_push ..
  have os₂ : s₂.os = s.os := by subst hs₂; rfl
  have g₂ : s₂.gens = s.gens := by subst hs₂; rfl
  have it₂ : s₂.heap.IsListIter s.heap.objs.size adr 0 := by subst hs₂; exact ⟨_, Heap.get?_push_size _ rfl, rfl, rfl⟩
  have lim₂ : s₂.heap.NoLimit := (R.h.bok.nolimit.keeps R.h.baseS).keeps k₂
  refine ⟨lim₂, ?_⟩
  have hd₂ : CodeHd s₂.heap 91 87 := (hd.keeps R.h.baseS).keeps k₂
  have tail : ∀ (c' : Value) (s₃ : Shared), (∀ b o, b ≠ (87 : Nat) → s₂.heap.get? b = some o → s₃.heap.get? b = some o) → s₂.heap.objs.size ≤ s₃.heap.objs.size → s₃.os = s.os → s₃.gens = s.gens → (∃ ps, s₃.heap.get? 87 = some (tabObj ps) ∧ TriplesOk ps.toList) →
      wpAny (model W.prog W.w) A (builtinsFor env.globals env.builtins) (fun bi s₄ =>
        ∃ I fp wr n₀ Pt St₀ Mid pz F, (Value.ref s.heap.objs.size) = .ref I ∧ (∀ A' : Around, A'.handled = none → WalksU W.prog W.w A' I fp wr n₀ Pt St₀ Mid) ∧ (∀ i vals, Pt i vals → ∃ va vb, vals = #[va, vb]) ∧ St₀ 0 s₄.heap ∧ (∀ b ∈ fp, b < s₄.heap.objs.size) ∧ s₄.heap.NoLimit ∧ cStatics ∉ wr ∧
          (∀ href : Heap, (∀ b o, s₄.heap.get? b = some o → href.get? b = some o) →
            QuietGenT W.prog W.w (genEnv scope [] s₄.heap.objs.size c' bi env) "fws" "part" [] (.BinOp (.Call (.Name "len" p1) [.Name "fws" p2] [] p3) .Add (.Call (.Name "len" p4) [.Name "part" p5] [] p6) p7) (List.range s₄.heap.objs.size) wr Pt pz F href) ∧
          (∀ a h₅ tk gs, gs.bare = true → s₄.heap.objs.size < a → h₅.objs.size = a + 1 → (∀ b o, s₄.heap.get? b = some o → h₅.get? b = some o) →
            WalksS W.prog W.w A.in4 a (a :: s₄.heap.objs.size :: List.range s₄.heap.objs.size) (s₄.heap.objs.size :: wr) (GenOnlyQ s₄.gens.size) (passing pz n₀ 0).length
              (fun j y => ∃ i, (passing pz n₀ 0)[j]? = some i ∧ F i y) (GenAt W.prog W.w A.in4 a s₄.gens.size s₄.heap.objs.size (List.range s₄.heap.objs.size) wr pz n₀ F) →
            GenAt W.prog W.w A.in4 a s₄.gens.size s₄.heap.objs.size (List.range s₄.heap.objs.size) wr pz n₀ F 0 { s₄ with gens := s₄.gens.push gs, toks := tk, heap := h₅ } →
            Q (.ref a) { s₄ with gens := s₄.gens.push gs, toks := tk, heap := h₅ })) E s₃ := by
    intro c' s₃ k₃ sz₃ os₃ g₃ tb₃
    have k03 : ∀ b o, b ≠ (87 : Nat) → s.heap.get? b = some o → s₃.heap.get? b = some o := fun b o hb e => k₃ b o hb (k₂ b o e)
    have R₃ : SR W φ h₀ ρ l H s₃ := R.tabbed h0 k03 tb₃ os₃ (by rw [g₃]; exact R.h.bare)
    have M₃ : BMod s₃.heap mainGlobals W.mg bm bo := M.keeps R₃.h.baseS
    have hm : ∀ p ∈ TS, p.1 ≠ s.heap.objs.size := fun p hp' e => by obtain ⟨nt, et⟩ := hp p hp'; have := hlt et; rw [e] at this; exact Nat.lt_irrefl _ this
    have _h87 : True := trivial
    have h87 : ∀ p ∈ TS, p.1 ≠ (87 : Nat) := fun p hp' e => by obtain ⟨nt, et⟩ := hp p hp'; rw [e, htb] at et; cases et
    have ha87 : adr ≠ (87 : Nat) := fun e => by rw [e, htb] at hob; cases hob; cases hcl
    have hI87 : s.heap.objs.size ≠ (87 : Nat) := fun e => by have := hlt htb; omega
    have hst : s₃.heap.IsListIter s.heap.objs.size adr 0 ∧ s₃.heap.get? adr = some ox ∧ PiecesAt TS s₃.heap := by
      refine ⟨?_, k03 _ _ ha87 hob, fun p hp' => ?_⟩
      · obtain ⟨o, e1, e2⟩ := it₂
        exact ⟨o, k₃ _ _ hI87 e1, e2⟩
      · obtain ⟨nt, et⟩ := hp p hp'
        exact ⟨nt, k03 _ _ (h87 p hp') et⟩
    rw [hE.glob]
    refine wpAny_builtinsFor M₃.ns M₃.name M₃.ne M₃.obj M₃.cls M₃.dict M₃.data ?_
    refine ⟨s.heap.objs.size, s.heap.objs.size :: adr :: TS.map (·.1), [s.heap.objs.size], TS.length, _, _, _, fun _ => true, fun i v => ∃ t, v = .int (pieceLen TS i) t, rfl,
      fun A' hA => walksAcc hA TS hdt (fun e => Nat.lt_irrefl _ (e ▸ hlt hob)) hm, fun i vals ⟨p, _, e⟩ => ⟨_, _, e⟩, hst, ?_, ?_, ?_, ?_, ?_⟩
    · intro b hb
      show @LT.lt Nat _ b s₃.heap.objs.size
      rcases List.mem_cons.mp hb with rfl | hb
      · omega
      · rcases List.mem_cons.mp hb with rfl | hb
        · have := hlt hob; omega
        · obtain ⟨p, hp', rfl⟩ := List.mem_map.mp hb
          obtain ⟨nt, et⟩ := hp p hp'
          have := hlt et; omega
    · exact R₃.h.bok.nolimit.keeps R₃.h.baseS
    · intro hm
      have e : cStatics = (s.heap.objs.size : Nat) := List.mem_singleton.mp hm
      obtain ⟨_, hn, _⟩ := R.h.bok.nolimit.keeps R.h.baseS
      have hn1 : @LT.lt Nat _ cStatics s.heap.objs.size := hn.lt
      rw [e] at hn1
      exact Nat.lt_irrefl _ hn1
    · intro href hh
      have hb := R₃.h.b.keeps hh
      have hg := R₃.h.g.keeps hh
      have hgl : @LT.lt Nat _ mainGlobals s.heap.objs.size := R.h.g.lt
      have hbl : @LT.lt Nat _ builtinsNs s.heap.objs.size := R.h.b.lt
      refine quietLen (mg := W.mg) (mb := W.mb) hT hkind hxl hxa hxb (by show href.Ns env.globals _; rw [hE.glob]; exact hg) (R.h.bok.bi _ (by decide +kernel)) hb ((R.h.bok.bb _ (by decide +kernel)).trans (by decide +kernel)) ?_ ?_ ?_ ?_
      · show @LT.lt Nat _ env.globals _; rw [hE.glob]; omega
      · show @LT.lt Nat _ builtinsNs _; omega
      · show @Ne Nat env.globals _; rw [hE.glob]; omega
      · show @Ne Nat builtinsNs _; omega
    · intro a h₅ tk gs hgb hag hsz₅ hk₅ Wk hat
      rw [passing_all, List.length_range] at Wk
      refine hQ a _ (R.tabbed h0 (fun b o hb e => hk₅ b o (k03 b o hb e)) ?_ os₃ ?_) (fun b o hb e => hk₅ b o (k03 b o hb e)) ⟨_, _, _, _, _, Wk, hat, ?_, ?_, ?_⟩
      · obtain ⟨q, e1, e2⟩ := tb₃
        exact ⟨q, hk₅ _ _ e1, e2⟩
      · show AllBare (s₃.gens.push gs)
        rw [g₃]
        exact R.h.bare.push hgb
      · intro b hb
        show @LT.lt Nat _ b h₅.objs.size
        rw [hsz₅]
        rcases List.mem_cons.mp hb with rfl | hb
        · exact Nat.lt_succ_self _
        · rcases List.mem_cons.mp hb with rfl | hb
          · exact Nat.lt_succ_of_lt hag
          · exact Nat.lt_succ_of_lt (Nat.lt_trans (List.mem_range.mp hb) hag)
      · intro b hb
        rcases List.mem_cons.mp hb with rfl | hb
        · show @LE.le Nat _ _ _; omega
        · simp at hb; subst hb; exact Nat.le_refl _
      · rintro i v ⟨i', e, t, rfl⟩
        rw [List.getElem?_range] at e
        · cases e; exact ⟨t, rfl⟩
        · rcases Nat.lt_or_ge i TS.length with q | q
          · exact q
          · rw [List.getElem?_eq_none (by simpa using q)] at e; cases e
  cases hnf : codeAmong pos ps.toList with
  | some c' =>
    refine wpAny_genexprCode_hit hcode (hd₂.code (k₂ _ _ htb) htr) hnf ?_
    exact tail c' s₂ (fun _ _ _ e => e) (Nat.le_refl _) os₂ g₂ ⟨ps, k₂ _ _ htb, htr⟩
  | none =>
    refine wpAny_genexprCodeX hcode (hd₂.code (k₂ _ _ htb) htr) (hd₂.tab (k₂ _ _ htb)) hnf fun c' h₃ tk₃ hx₃ hge hlt' hcode₃ _ htab₃ _ => ?_
    refine tail (.ref c') _ (fun b o hb e => hx₃ b o hb e) (Nat.le_trans hge (Nat.le_of_lt hlt')) os₂ g₂ ⟨_, htab₃.2, ?_⟩
    obtain ⟨_, _, _, _, _, _, _, _, _, _, _, _, _, _, _, _, _, _, _, htr', _⟩ := hcode₃
    exact htr'
end
end Mine
namespace Mine
open PySem PySem.W PyProof.Rows PySem.Builtin

noncomputable def fLen : Fn := fun l h k => match l with
  | [a] => lenP a h fun n => k (.int (Int.ofNat n)) h
  | _ => false
theorem lenP_of {a : V} {H : Hp} {k : Nat → Bool} (h : lenP a H k = true) : ∃ j dk f vs, a = .ref j ∧ H.t.get j = some (.acc dk vs) ∧ H.t.get dk = some (.inst f) ∧ H.t.get 0 = some .tab ∧ sumT H vs f (fun i => asNat (.int i) fun n => chk (Nat.blt n 4294967296) (k n)) = true := by
  obtain ⟨j, dk, f, vs, rfl, h1, h2, h3⟩ := asPile_of (show asPile a H _ = true from h)
  clear h
  cases e : H.t.get 0 with
  | none => rw [e] at h3; exact absurd h3 Bool.false_ne_true
  | some o =>
    rw [e] at h3
    cases o with
    | tab => exact ⟨j, dk, f, vs, rfl, h1, h2, rfl, h3⟩
    | _ => exact absurd h3 Bool.false_ne_true

section
variable {W : Wd} {n : Nat} {Γ : Sc} {P : Params}
theorem call_lenA (af : AccF W P) (bu : BuiltM W) : RefFn W (n + 3) 92 fLen := by
  have hf : (kfrag.heap_1 P).lookup 92 = some ⟨.type "function", _, .func _, _⟩ := rfl
  refine RefFn.imp (RefFn.ofAt (n := n + 2) (F := fLen) (Γ := ⟨_, [(("self" : Str), 0)]⟩) (ns := ["self"]) (ps := ["self"]) (m := 0) ⟨⟨_, af.X _ _ hf, rfl⟩, codeRec_of af.X (by first | rfl | kernel_rfl), rfl, rfl⟩ rfl rfl rfl (by decide +kernel) (by decide +kernel) (by decide +kernel) (by decide +kernel) rfl rfl
    (fun s vals _ hv => BindsTo.of_eq ?_) (fun A E s h₀ ρ φ env l H k Q hR hE hfu hco hce R h hP => ?_) rfl rfl) (fun l H k e => ?_)
  · match vals, hv with
    | [v], _ => rfl
  · have hP : Post W φ h₀ ρ l k Q := fun v x ρ' H' s' p R' => hP v x ρ' l H' s' p R'
    match l, h with
    | [y], h =>
      obtain ⟨j, dk, f, vs, rfl, hacc, hin, htab, hs⟩ := lenP_of h
      refine ks_wpAt_execs_cons (ks_wpAt_Return_some (wpAt_of_wpAny ?_))
      obtain ⟨a0, ha0, _⟩ := R.h.obj j _ hacc
      obtain ⟨adr, its, nn, dx, sl, hs', t, u, m, -, hj, hob, hits, hdx, hI⟩ := R.h.pileAt af hacc hin (v := .ref a0) ⟨a0, ha0, rfl⟩
      obtain ⟨TS, hTS, hp, hT, hk⟩ := sumT_of R.h hits hs
      subst hTS
      obtain ⟨N, hN, hk⟩ := asNat_of hk
      obtain ⟨hc, hk⟩ := chk_of hk
      refine wpAny_Call_NameR (load_bi hE R.h rfl (by decide +kernel) (by decide +kernel : bootBuiltins "sum" = some (.builtin "sum")) (by decide +kernel) (by decide +kernel) ?_)
      refine Calls.callWith_builtin rfl (Calls.evalArgs_plain (Calls.spliced_cons ?_))
      refine gen_pile af bu (ox := ⟨.ref 125, some dx, .seq (TS.map fun p => Value.ref p.1).toArray nn, sl⟩) (TS := TS) hR hE R hco rfl rfl hj htab hob rfl rfl hp hT rfl (by decide +kernel) (by decide +kernel) (by decide +kernel) (by decide +kernel) (by decide +kernel) (by decide +kernel) rfl fun a s₁ R₁ hk₁ hW => ?_
      obtain ⟨fp, wr, g, St, F, Wk, hst, hfp, hwr, hF⟩ := hW
      refine Calls.spliced_cons ?_
      rw [arm_eval_Attribute]
      refine wpAny_bind ?_
      show wpAny _ A (PySem.eval (.Name _ _) env) _ _ _
      refine wpAny_Name (load_slot hE R₁.f rfl rfl (by intro e; cases e) (by decide +kernel) fun v hv => ?_) (by decide +kernel)
      obtain ⟨adr', hj', rfl⟩ : ∃ b, ρ[j]? = some b ∧ v = .ref b := hv
      rw [hj] at hj'; cases hj'
      refine wpAny_bind (wpAny_standAt (wpAny_bind (wpAny_holding ?_)))
      obtain ⟨adr2, its2, nn2, dx2, sl2, hs2, t2, u2, m2, -, hj2, hob2, hits2, hdx2, hI2⟩ := R₁.h.pileAt af hacc hin (v := .ref adr) ⟨adr, hj, rfl⟩
      rw [hj] at hj2; cases hj2
      refine acc_getSize (af.at_ R₁.h) hI2 ?_
      refine wpAny_bind ?_
      show wpAny _ A (pure ()) _ _ _
      refine wpAny_pure (wpAny_pure (Calls.spliced_nil ?_))
      show wpAny _ A (PySem.call (.builtin "sum") [.ref a, .int f u2]) _ _ _
      have W1 := Wk.in4_1
      have hst1 := W1.frame 0 s₁ s₁.heap (s₁.toks + 1) hst (Nat.le_succ _) fun _ _ _ e => e
      refine call_sum_start (W1.self 0 _ _ _ hst1 ⟨a, fp, wr, _, _, _, _, pieceLen TS, rfl, W1, hst1, hfp, hF, fun s' t' hm => ?_⟩)
      have hi : (f + preSum (pieceLen TS) TS.length : Int) = Int.ofNat N := by
        have := hN
        injection this
      rw [hi]
      have k2 : ∀ b o, b ≠ (87 : Nat) → s.heap.get? b = some o → s'.heap.get? b = some o := fun b o hb e => hm.heap b o (fun hw => by
        have h1 := hwr b hw
        have h2 : @LT.lt Nat _ b s.heap.objs.size := Heap.lt_size e
        exact Nat.lt_irrefl _ (Nat.lt_of_lt_of_le h2 h1)) (hk₁ b o hb e)
      obtain ⟨ps, hps, htr⟩ := R₁.tabAt htab
      have h87 : (87 : Nat) ∉ wr := fun hw => by
        have h1 := hwr _ hw
        obtain ⟨ps0, hps0, _⟩ := R.tabAt htab
        have h2 : @LT.lt Nat _ 87 s.heap.objs.size := Heap.lt_size hps0
        exact Nat.lt_irrefl _ (Nat.lt_of_lt_of_le h2 h1)
      refine hP.here (x := .int (Int.ofNat N)) (R.tabbed htab k2 ⟨ps, hm.heap _ _ h87 hps, htr⟩ (hm.os.trans (R₁.h.os.trans R.h.os.symm)) (hm.gens.bare R₁.h.bare)) ⟨_, rfl⟩ hk
    | [], h => exact absurd h Bool.false_ne_true
    | _ :: _ :: _, h => exact absurd h Bool.false_ne_true
  · match l, e with
    | [y], e => exact e
    | [], h => exact absurd h Bool.false_ne_true
    | _ :: _ :: _, h => exact absurd h Bool.false_ne_true
end
end Mine
namespace Mine
open PySem PySem.W PyProof.Rows PySem.Builtin

theorem sumT_mono {H : Hp} : ∀ {vs : List V} {a : Int} {k k' : Int → Bool}, (∀ i, k i = true → k' i = true) → sumT H vs a k = true → sumT H vs a k' = true
  | [], a, k, k', hk, h => hk a h
  | x :: vs, a, k, k', hk, h => by
    have h' : asTup x H (fun ws => match ws with
      | [.str s, .str t] => chk (Nat.ble (lenL s) 4096) (chk (Nat.ble (lenL t) 4096) (sumT H vs (a + Int.ofNat (lenL s + lenL t)) k))
      | _ => false) = true := h
    refine asTup_mono (c' := fun ws => match ws with
      | [.str s, .str t] => chk (Nat.ble (lenL s) 4096) (chk (Nat.ble (lenL t) 4096) (sumT H vs (a + Int.ofNat (lenL s + lenL t)) k'))
      | _ => false) h' fun ws hw => ?_
    match ws, hw with
    | [.str s, .str t], hw => exact chk_mono hw fun h1 => chk_mono h1 fun h2 => sumT_mono hk h2
    | [], hw => exact absurd hw Bool.false_ne_true
    | [_], hw => exact absurd hw (by simp)
    | .str _ :: .str _ :: _ :: _, hw => exact absurd hw Bool.false_ne_true
theorem lenP_bound {a : V} {H : Hp} {k : Nat → Bool} (h : lenP a H k = true) : lenP a H (fun n => chk (Nat.blt n 4294967296) (k n)) = true := by
  obtain ⟨j, dk, f, vs, rfl, hacc, hin, htab, hs⟩ := lenP_of h
  unfold lenP asPile asAcc asRef
  simp only [hacc, hin, htab]
  refine sumT_mono (fun i hi => ?_) hs
  obtain ⟨N, hN, hk⟩ := asNat_of hi
  injection hN with hN
  subst hN
  obtain ⟨hc, hk'⟩ := chk_of hk
  show chk (Nat.blt N 4294967296) (chk (Nat.blt N 4294967296) (k N)) = true
  rw [hc]; exact hk'

section
variable {W : Wd} {n : Nat} {Γ : Sc} {P : Params}
/-- len(pile) -/
theorem op_lenP (af : AccF W P) (bu : BuiltM W) : Op1 W (n + 4) oLenP (fun v => call (.builtin "len") [v]) := by
  intro A E s h₀ ρ φ l H k Q a x hR R ra h hP
  have hb := lenP_bound (show lenP x H (fun n => k (.int (Int.ofNat n)) H) = true from h)
  obtain ⟨j, dk, f, vs, rfl, hacc, hin, htab, hs⟩ := lenP_of h
  obtain ⟨adr, its, nn, dx, sl, hs', t, u, m, rfl, hj, hob, hits, hdx, hI⟩ := R.h.pileAt af hacc hin ra
  have X := af.at_ R.h
  have hf : (kfrag.heap_1 P).lookup 92 = some ⟨.type "function", _, .func _, _⟩ := rfl
  refine Calls.call_function_entry kind_len plain_len entry_len (args_len1 _) ?_
  unfold Builtin.«len»
  refine wpAny_bind (m := oneArg "len" _) (wpAny_pure ?_)
  unfold callSpecial?
  refine wpAny_bind (wpAny_bind ((acc_special (M := model W.prog W.w) (name := Str.ofString "__len__") X hob rfl (r := some (.ref 92)) (by kernel_rfl)).here ?_))
  refine wpAny_holding (wpAny_bind (wpAny_bindSpecial_def (X _ _ hf) rfl ?_))
  have call := call_lenA (n := n) af bu A.in1 E s h₀ ρ φ l H (fun v h => match v with | .int (.ofNat i) => chk (Nat.blt i 4294967296) (k v h) | _ => false)
    (fun r s' => ∃ i : Nat, ∃ w, r = .int (i : Int) w ∧ i < 4294967296 ∧ ∀ tk, Q (.int (i : Int) tk) { s' with toks := tk + 1 }) [.ref adr] [.ref j] hR.in1 R ⟨ra, trivial⟩ hb (fun v x ρ' H' s' hp R' r' hk => ?_)
  · refine wpAny_bind (wpAny_mono call (fun r s' hr => wpAny_pure ?_) fun _ _ y => y)
    obtain ⟨i, w, rfl, hi, hq⟩ := hr
    refine wpAny_bind (wpAny_holding (wpAny_pure ?_))
    refine wpAny_bind (wpAny_letGo ?_)
    show wpAny _ _ (if (i : Int) < 0 then _ else _) _ _ _
    rw [if_neg (by omega)]
    show wpAny _ _ (if (i : Int) ≥ 2 ^ 63 then _ else _) _ _ _
    rw [if_neg (by omega)]
    exact wpAny_bind (wpAny_mkInt (wpAny_pure ⟨_, rfl, hq _⟩))
  · cases x with
    | int i =>
      cases i with
      | ofNat i =>
        obtain ⟨hc, hk'⟩ := chk_of hk
        obtain ⟨tk, rfl⟩ := r'
        exact ⟨i, tk, rfl, PySem.W.Z.blt_iff.mp hc, fun tk => hP _ (.int (Int.ofNat i)) ρ' H' _ hp (R'.tok _) ⟨tk, rfl⟩ hk'⟩
      | negSucc i => exact absurd hk Bool.false_ne_true
    | _ => exact absurd hk Bool.false_ne_true
end
end Mine
namespace Mine
noncomputable section
def tokG : List (Tx × Option Int) := [([59], some 13), ([60], some 20), ([62], some 21), ([60, 60], some 33), ([62, 62], some 34), ([60, 62], none), ([62, 60], none), ([60, 59], none), ([62, 59], none), ([59, 60], none), ([59, 62], none), ([59, 59], none)]
def f_ISTERMINAL : Fn := fun args h k => chk (Nat.beq (lenL args) 1) (fDef 0 (sBlock [(sRet (cOp2 oLtI (cVar 0) (cVal (.int 256))))]) args h k)
def f_ISNONTERMINAL : Fn := fun args h k => chk (Nat.beq (lenL args) 1) (fDef 0 (sBlock [(sRet (cOp2 oGeI (cVar 0) (cVal (.int 256))))]) args h k)
def f_ISEOF : Fn := fun args h k => chk (Nat.beq (lenL args) 1) (fDef 0 (sBlock [(sRet (cOp2 oEqI (cVar 0) (cVal (.int 0))))]) args h k)
def f__strcoll : Fn := fun args h k => chk (Nat.beq (lenL args) 2) (fDef 0 (sBlock [(sRet (cOp2 oSubB (cOp2 oGtS (cVar 0) (cVar 1)) (cOp2 oLtS (cVar 0) (cVar 1))))]) args h k)
def f__strxfrm : Fn := fun args h k => chk (Nat.beq (lenL args) 1) (fDef 0 (sBlock [(sRet (cVar 0))]) args h k)
def f__build_localename : Fn := fun args h k => chk (Nat.beq (lenL args) 1) (fDef 2 (sBlock [(sBlock [(sUnpack [1, 2] (cVar 0)), (sIf (bC (cOp2 oIs (cVar 1) (cVal .none))) (sBlock [(sSet 1 (cVal (.str [67])))]) (sBlock [])), (sIf (bC (cOp2 oIs (cVar 2) (cVal .none))) (sBlock [(sRet (cVar 1))]) (sBlock [(sRet (cOp2 oAddS (cOp2 oAddS (cVar 1) (cVal (.str [46]))) (cVar 2)))]))])]) args h k)
def f__law_cells : Fn := fun args h k => chk (Nat.beq (lenL args) 1) (fDef 3 (sBlock [(sSet 1 (cList [(cVal (.int 43)), (cVal (.int 78))])), (sFor [2, 3] (iEnum (cVar 0)) (sBlock [(sSetL (cOp2 oAddI (cOp2 oItemL (cVar 1) (cOp2 oModI (cVar 2) (cVal (.int 2)))) (cVar 3)) (cVar 1) (cOp2 oModI (cVar 2) (cVal (.int 2))))])), (sRet (cVar 1))]) args h k)
def f__law_ties : Fn := fun args h k => chk (Nat.beq (lenL args) 1) (fDef 1 (sBlock [(sSet 1 (cList [(cTup [(cVal (.int 0)), (cVal (.int 1))]), (cTup [(cVal (.int 0)), (cVal (.int 2))]), (cTup [(cVal (.int 0)), (cVal (.int 3))]), (cTup [(cVal (.int 1)), (cVal (.int 2))]), (cTup [(cVal (.int 1)), (cVal (.int 3))]), (cTup [(cVal (.int 2)), (cVal (.int 3))])])), (sRet (cComp 3 [0, 1] (iEnum (cVar 1)) (gIf (bC (cOp2 oEqI (cOp2 oModI (cOp2 oDivI (cVar 3) (cOp2 oPowI (cVal (.int 2)) (cVar 0))) (cVal (.int 2))) (cVal (.int 1)))) (gElt (cVar 1)))))]) args h k)
def f__law_names : Fn := fun args h k => chk (Nat.beq (lenL args) 1) (fDef 4 (sBlock [(sSet 1 (cOp2 oItemL (cList [(cVal (.str [98, 101, 95, 66, 89])), (cVal (.str [98, 32, 99])), (cVal (.str [97, 46, 66])), (cVal (.str [97, 90, 45, 122]))]) (cOp2 oModI (cOp2 oDivI (cVar 0) (cVal (.int 120))) (cVal (.int 4))))), (sSet 2 (cOp2 oItemL (cList [(cVal (.str [117, 116, 102, 56])), (cVal (.str [85, 116, 102, 45, 56])), (cVal (.str [60])), (cVal (.str [46, 67, 32]))]) (cOp2 oModI (cOp2 oDivI (cVar 0) (cVal (.int 480))) (cVal (.int 4))))), (sSet 3 (cList [(cTup [(cVal (.str [])), (cVal .none)]), (cTup [(cVal (.str [32])), (cVal (.str []))]), (cTup [(cVal .none), (cVal .none)]), (cTup [(cVal .none), (cVar 2)]), (cTup [(cVar 1), (cVal .none)]), (cTup [(cVar 1), (cVar 2)])])), (sSet 4 (cComp 2 [0] (iList (cVar 3)) (gElt (cCall f__build_localename [(cVar 0)])))), (sIf (bOr (bC (cOp2 oNeD (cVar 4) (cList [(cVal (.str [])), (cVal (.str [32, 46])), (cVal (.str [67])), (cOp2 oAddS (cVal (.str [67, 46])) (cVar 2)), (cVar 1), (cOp2 oAddS (cOp2 oAddS (cVar 1) (cVal (.str [46]))) (cVar 2))]))) (bC (cOp2 oNeD (cOp1 oSorted (cOp1 oRevL (cVar 4))) (cVar 4)))) (sBlock [(sRet (cList []))]) (sBlock [])), (sExpr (cM isListB oPopAt (cVar 4) (cOp2 oModI (cVar 0) (cVal (.int 6))))), (sExpr (cM isListB oPopAt (cVar 4) (cOp2 oModI (cOp2 oDivI (cVar 0) (cVal (.int 6))) (cVal (.int 5))))), (sRet (cVar 4))]) args h k)
def f__law_side : Fn := fun args h k => chk (Nat.beq (lenL args) 1) (fDef 0 (sBlock [(sIf (bOr (bC (cOp2 oIsNot (cCall f_ISTERMINAL [(cOp2 oAddI (cVal (.int 255)) (cVar 0))]) (cOp2 oLeI (cVar 0) (cVal (.int 0))))) (bC (cOp2 oIsNot (cCall f_ISTERMINAL [(cOp2 oAddI (cVal (.int 256)) (cVar 0))]) (cOp2 oLtI (cVar 0) (cVal (.int 0)))))) (sBlock [(sRet (cVal (.str [])))]) (sBlock [])), (sIf (bOr (bC (cOp2 oIsNot (cCall f_ISNONTERMINAL [(cOp2 oAddI (cVal (.int 255)) (cVar 0))]) (cOp2 oGtI (cVar 0) (cVal (.int 0))))) (bC (cOp2 oIsNot (cCall f_ISNONTERMINAL [(cOp2 oAddI (cVal (.int 256)) (cVar 0))]) (cOp2 oGeI (cVar 0) (cVal (.int 0)))))) (sBlock [(sRet (cVal (.str [])))]) (sBlock [])), (sIf (bC (cOp2 oIsNot (cCall f_ISEOF [(cVar 0)]) (cOp2 oEqI (cVar 0) (cVal (.int 0))))) (sBlock [(sRet (cVal (.str [])))]) (sBlock [])), (sRet (cIf (bC (cOp2 oLtI (cVar 0) (cVal (.int 0)))) (cVal (.str [60])) (cIf (bC (cOp2 oGtI (cVar 0) (cVal (.int 0)))) (cVal (.str [62])) (cVal (.str [61])))))]) args h k)
def f__law_sign : Fn := fun args h k => chk (Nat.beq (lenL args) 2) (fDef 1 (sBlock [(sSet 2 (cCall f__strcoll [(cVar 0), (cVar 1)])), (sRet (cIf (bAnd (bC (cOp2 oInL (cVar 2) (cList [(cVal (.int (-1))), (cVal (.int 0)), (cVal (.int 1))]))) (bNot (bC (cOp1 oIsBool (cVar 2))))) (cCall f__law_side [(cVar 2)]) (cVal (.str []))))]) args h k)
def f__law_orders : Fn := fun args h k => chk (Nat.beq (lenL args) 0) (fDef 2 (sBlock [(sSet 0 (cList [(cList [])])), (sFor [1] (iRange (cVal (.int 4))) (sBlock [(sSet 0 (cComp 3 [0] (iList (cVar 0)) (gFor [1] (iRange (cOp2 oAddI (cVar 4) (cVal (.int 1)))) (gElt (cOp2 oAddL (cOp2 oAddL (cOp2 oToL (cVar 0) (cVar 1)) (cList [(cVar 4)])) (cOp2 oFromL (cVar 0) (cVar 1)))))))])), (sRet (cVar 0))]) args h k)
def f__law_lesser : Fn := fun args h k => chk (Nat.beq (lenL args) 1) (fDef 5 (sBlock [(sSetsR [3, 2, 1] [(cList []), (cVal (.int 0)), (cVal (.int 0))]), (sWhile 60 (bC (cOp2 oLtI (cVar 3) (cOp1 oLenS (cVar 0)))) (sBlock [(sSet 4 (cIf (bC (cOp1 (oInG tokG) (cOp3 oCutS (cVar 0) (cVar 3) (cOp2 oAddI (cVar 3) (cVal (.int 2)))))) (cVal (.int 2)) (cVal (.int 1)))), (sSet 5 (cOp1 (oGetG tokG) (cOp3 oCutS (cVar 0) (cVar 3) (cOp2 oAddI (cVar 3) (cVar 4))))), (sAug oAddI 3 (cVar 4)), (sIf (bC (cOp2 oEqI (cVar 5) (cVal (.int 13)))) (sBlock [(sExpr (cM isListB oAppend (cVar 1) (cVar 2))), (sSet 2 (cVal (.int 0)))]) (sBlock [(sIf (bOr (bC (cOp2 oEqI (cVar 5) (cVal (.int 21)))) (bC (cOp2 oEqI (cVar 5) (cVal (.int 34))))) (sBlock [(sAug oAddI 2 (cIf (bC (cOp2 oEqI (cVar 5) (cVal (.int 21)))) (cVal (.int 1)) (cVal (.int 2))))]) (sBlock [(sIf (bAnd (bC (cOp2 oNeI (cVar 5) (cVal (.int 20)))) (bC (cOp2 oNeI (cVar 5) (cVal (.int 33))))) (sBlock [(sRet (cList []))]) (sBlock []))]))]))])), (sRet (cVar 1))]) args h k)
def f__law_counts : Fn := fun args h k => chk (Nat.beq (lenL args) 1) (fDef 2 (sBlock [(sSet 1 cDict), (sFor [2] (iList (cVar 0)) (sBlock [(sIf (bC (cOp2 oNotInD (cVar 2) (cVar 1))) (sBlock [(sSetD (cCall f__law_lesser [(cVar 2)]) (cVar 1) (cVar 2))]) (sBlock []))])), (sRet (cVar 1))]) args h k)
def f__law_apart : Fn := fun args h k => chk (Nat.beq (lenL args) 2) (fDef 11 (sBlock [(sSetsR [3, 2] [(cOp1 oNewAcc (cVar 1)), (cM isStrB oJoin (cVal (.str [32])) (cComp 3 [0, 1] (iListT 2 (cVar 0)) (gElt (cOp2 oAddS (cOp2 oItemS (cVal (.str [97, 98, 99, 100])) (cVar 0)) (cOp2 oItemS (cVal (.str [97, 98, 99, 100])) (cVar 1))))))]), (sSetsR [6, 5, 4] [(cList [(cVal (.int 0)), (cVal (.int 0)), (cVal (.int 0)), (cVal (.int 0)), (cVal (.int 0))]), (cList []), (cOp2 oAddI (cVar 1) (cOp1 oLenS (cVar 3)))]), (sIf (bC (cOp2 oIsNot (cMeth fPush (cVar 2) [(cVal (.str [])), (cVar 3)]) (cVal .none))) (sBlock [(sRet (cList []))]) (sBlock [])), (sFor [7] (iRange (cVal (.int 48))) (sBlock [(sIf (bC (cOp2 oNeI (cOp1 oLenP (cVar 2)) (cVar 6))) (sBlock [(sRet (cList []))]) (sBlock [])), (sIf (bC (cOp2 oEqI (cMeth fPart (cVar 2) []) (cVal (.int 0)))) (sBlock [sBrk]) (sBlock [])), (sSet 5 (cIf (bC (cOp2 oEqI (cOp2 oModI (cVar 7) (cVal (.int 2))) (cVal (.int 0)))) (cList [(cMeth fPop (cVar 2) [])]) (cMeth fPopFrom (cVar 2) [(cOp2 oSubI (cMeth fPart (cVar 2) []) (cVal (.int 1)))]))), (sUnpack [8, 3] (cOp2 oItemL (cVar 5) (cVal (.int 0)))), (sAug oSubI 6 (cOp2 oAddI (cOp1 oLenS (cVar 8)) (cOp1 oLenS (cVar 3)))), (sIf (bC (cOp2 oEqS (cVar 3) (cVal (.str [])))) (sBlock [(sAugL (cVar 4) (cOp2 oSubI (cVal (.int 4)) (cOp1 oLenS (cVar 8))) (cVal (.int 1)))]) (sBlock [(sSet 9 (cM isStrB oSplit (cVar 3) (cVal (.str [32])))), (sSet 10 (cList [])), (sFor [11] (iList (cOp2 oFromL (cVar 9) (cVal (.int 1)))) (sBlock [(sSet 11 (cReplace (cVar 11) 9 0 1 0 0)), (sSet 11 (cOp2 oAddS (cOp1 oMinS (cVar 11)) (cOp1 oMaxS (cVar 11)))), (sIf (bC (cOp2 oNotInL (cVar 11) (cVar 10))) (sBlock [(sExpr (cM isListB oAppend (cVar 10) (cVar 11)))]) (sBlock []))])), (sFor [12, 3] (iListT 2 (cList [(cTup [(cVar 8), (cM isStrB oJoin (cVal (.str [32])) (cOp2 oFromL (cVar 9) (cVal (.int 1))))]), (cTup [(cOp2 oAddS (cVar 8) (cVal (.str [32]))), (cM isStrB oJoin (cVal (.str [32])) (cVar 10))])])) (sBlock [(sExpr (cMeth fPush (cVar 2) [(cVar 12), (cVar 3)])), (sAug oAddI 6 (cOp2 oAddI (cOp1 oLenS (cVar 12)) (cOp1 oLenS (cVar 3))))]))]))])), (sRet (cIf (bAnd (bC (cOp2 oEqD (cVar 5) (cList [(cTup [(cVal (.str [])), (cVal (.str []))])]))) (bC (cOp2 oEqD (cMeth fPop (cVar 2) []) (cTup [(cVal (.str [])), (cVal (.str []))])))) (cVar 4) (cList [])))]) args h k)
def f__law_paints : Fn := fun args h k => chk (Nat.beq (lenL args) 2) (fDef 1 (sBlock [(sSet 2 (cComp 2 [0] (iRange (cOp2 oPowI (cVar 1) (cVal (.int 4)))) (gElt (cComp 2 [0] (iRange (cVal (.int 4))) (gElt (cOp2 oModI (cOp2 oDivI (cVar 2) (cOp2 oPowI (cVar 5) (cVar 0))) (cVar 5))))))), (sRet (cOp1 oLenL (cComp 2 [0] (iList (cVar 2)) (gIf (bC (cOp2 oEqD (cComp 2 [0] (iList (cVar 2)) (gIf (bC (cOp2 oEqI (cOp2 oItemL (cVar 2) (cOp2 oItemT (cVar 0) (cVal (.int 0)))) (cOp2 oItemL (cVar 2) (cOp2 oItemT (cVar 0) (cVal (.int 1)))))) (gElt (cVar 0)))) (cList []))) (gElt (cVar 0))))))]) args h k)
def f__law_rising : Fn := fun args h k => chk (Nat.beq (lenL args) 1) (fDef 2 (sBlock [(sFor [1] (iRange2 (cVal (.int 1)) (cOp1 oLenL (cVar 0))) (sBlock [(sSet 2 (cOp2 oSubI (cOp1 oInt (cOp2 oItemL (cVar 0) (cVar 1))) (cOp1 oInt (cOp2 oItemL (cVar 0) (cOp2 oSubI (cVar 1) (cVal (.int 1))))))), (sIf (bOr (bC (cOp2 oNeI (cCall f__strcoll [(cOp2 oItemL (cVar 0) (cOp2 oSubI (cVar 1) (cVal (.int 1)))), (cOp2 oItemL (cVar 0) (cVar 1))]) (cVal (.int (-1))))) (bC (cOp2 oNeS (cOp2 oAddS (cCall f__law_side [(cVar 2)]) (cCall f__law_side [(cOp2 oSubI (cVal (.int 0)) (cVar 2))])) (cVal (.str [62, 60]))))) (sBlock [(sRet (cVal (.bool false)))]) (sBlock []))])), (sRet (cVal (.bool true)))]) args h k)
def f_law : Fn := fun args h k => chk (Nat.beq (lenL args) 1) (fDef 16 (sBlock [(sSet 1 (cCall f__law_cells [(cVar 0)])), (sSets [2, 3] [(cCall f__law_ties [(cOp2 oItemL (cVar 1) (cVal (.int 0)))]), (cCall f__law_names [(cOp2 oItemL (cVar 1) (cVal (.int 1)))])]), (sSet 4 (cComp 2 [0] (iList (cVar 3)) (gElt (cM isStrB oJoin (cVal (.str [])) (cComp 2 [0] (iList (cVar 5)) (gElt (cCall f__law_sign [(cVar 2), (cVar 0)]))))))), (sSet 5 (cComp 2 [0] (iList (cM isStrB oSplit (cVal (.str [59, 32, 60, 32, 62, 32, 60, 60, 32, 62, 62])) (cVal (.str [32])))) (gElt (cOp1 (oGetG tokG) (cVar 0))))), (sIf (bOr (bC (cOp2 oNeD (cVar 4) (cList [(cVal (.str [61, 60, 60, 60])), (cVal (.str [62, 61, 60, 60])), (cVal (.str [62, 62, 61, 60])), (cVal (.str [62, 62, 62, 61]))]))) (bC (cOp2 oNeD (cVar 5) (cList [(cVal (.int 13)), (cVal (.int 20)), (cVal (.int 21)), (cVal (.int 33)), (cVal (.int 34))])))) (sBlock [(sRet (cVal (.bool false)))]) (sBlock [])), (sSet 6 (cComp 2 [0] (iRange (cVal (.int 4))) (gElt (cComp 2 [0] (iRange (cVal (.int 4))) (gIf (bOr (bC (cOp2 oInL (cTup [(cVar 2), (cVar 0)]) (cVar 6))) (bC (cOp2 oInL (cTup [(cVar 0), (cVar 2)]) (cVar 6)))) (gElt (cVar 0))))))), (sSets [7, 8] [(cCall f__law_orders []), (cList [])]), (sFor [9] (iList (cVar 7)) (sBlock [(sExpr (cM isListB oAppend (cVar 8) (cM isStrB oJoin (cVal (.str [])) (cComp 2 [0] (iRange (cVal (.int 4))) (gElt (cOp2 oAddS (cM isStrB oJoin (cVal (.str [])) (cComp 2 [0] (iList (cOp2 oItemL (cVar 8) (cVar 0))) (gElt (cOp2 oItemS (cOp2 oItemL (cVar 8) (cOp2 oItemL (cVar 13) (cVar 2))) (cOp2 oItemL (cVar 13) (cVar 0)))))) (cVal (.str [59]))))))))])), (sSet 10 (cCall f__law_counts [(cVar 8)])), (sFor [9, 11] (iZip (cVar 7) (cVar 8)) (sBlock [(sIf (bC (cOp2 oNeD (cOp2 oItemD (cVar 10) (cVar 11)) (cComp 2 [0] (iRange (cVal (.int 4))) (gElt (cOp1 oLenL (cComp 2 [0] (iList (cOp2 oItemL (cVar 8) (cVar 0))) (gIf (bC (cOp2 oLtI (cOp2 oItemL (cVar 13) (cVar 0)) (cOp2 oItemL (cVar 13) (cVar 2)))) (gElt (cVar 0))))))))) (sBlock [(sRet (cVal (.bool false)))]) (sBlock []))])), (sSet 8 (cOp1 oSorted (cVar 8))), (sSet 12 (cComp 2 [0] (iRange2 (cVal (.int 1)) (cVal (.int 24))) (gElt (cCall f__strcoll [(cOp2 oItemL (cVar 10) (cOp2 oSubI (cVar 0) (cVal (.int 1)))), (cOp2 oItemL (cVar 10) (cVar 0))])))), (sSet 13 (cOp2 oAddI (cVal (.int 1)) (cM isListB oCount (cVar 12) (cVal (.int (-1)))))), (sSet 14 (cCall f__law_apart [(cVar 2), (cOp2 oModI (cOp2 oDivI (cOp2 oItemL (cVar 1) (cVal (.int 1))) (cVal (.int 30))) (cVal (.int 4)))])), (sIf (bOr (bC (cOp2 oNeI (cOp1 oLenL (cVar 14)) (cVal (.int 5)))) (bC (cOp2 oNeD (cList [(cVar 13), (cOp1 oLenD (cVar 10))]) (cList [(cOp1 oSum (cVar 14)), (cOp1 oSum (cVar 14))])))) (sBlock [(sRet (cVal (.bool false)))]) (sBlock [])), (sIf (bC (cOp2 oNeI (cOp1 oLenL (cComp 2 [0] (iList (cVar 12)) (gIf (bC (cCall f_ISEOF [(cVar 0)])) (gElt (cVar 0))))) (cOp2 oSubI (cVal (.int 24)) (cVar 13)))) (sBlock [(sRet (cVal (.bool false)))]) (sBlock [])), (sFor [15] (iRange (cVal (.int 4))) (sBlock [(sIf (bC (cOp2 oNeI (cOp1 oLenL (cComp 2 [0] (iVals (cVar 10)) (gIf (bAnd (bC (cCall f_ISEOF [(cOp2 oItemL (cVar 0) (cVar 17))])) (bC (cOp2 oEqI (cM isListB oCount (cVar 0) (cVal (.int 0))) (cVal (.int 1))))) (gElt (cVar 0))))) (cOp2 oItemL (cVar 14) (cVal (.int 1))))) (sBlock [(sRet (cVal (.bool false)))]) (sBlock []))])), (sIf (bNot (bC (cCall f__law_rising [(cOp1 oSorted (cComp 2 [0] (iVals (cVar 10)) (gElt (cM isStrB oJoin (cVal (.str [])) (cComp 2 [0] (iList (cVar 0)) (gElt (cOp2 oItemS (cVal (.str [48, 49, 50, 51])) (cVar 0))))))))]))) (sBlock [(sRet (cVal (.bool false)))]) (sBlock [])), (sSet 16 (cList [(cCall f__law_paints [(cVar 2), (cVal (.int 1))]), (cCall f__law_paints [(cVar 2), (cVal (.int 2))])])), (sRet (cOp2 oEqD (cVar 16) (cList [(cOp2 oSubI (cOp2 oAddI (cOp2 oSubI (cOp2 oItemL (cVar 14) (cVal (.int 4))) (cOp2 oItemL (cVar 14) (cVal (.int 3)))) (cOp2 oItemL (cVar 14) (cVal (.int 2)))) (cOp2 oItemL (cVar 14) (cVal (.int 1)))), (cOp2 oSubI (cOp2 oAddI (cOp2 oSubI (cOp2 oMulI (cVal (.int 16)) (cOp2 oItemL (cVar 14) (cVal (.int 4)))) (cOp2 oMulI (cVal (.int 8)) (cOp2 oItemL (cVar 14) (cVal (.int 3))))) (cOp2 oMulI (cVal (.int 4)) (cOp2 oItemL (cVar 14) (cVal (.int 2))))) (cOp2 oMulI (cVal (.int 2)) (cOp2 oItemL (cVar 14) (cVal (.int 1)))))])))]) args h k)
end
end Mine
namespace Mine
open PySem PySem.W PyProof.Rows

/-- what the module's names stand for -/
def mgTab : List (Str × Value) := [("NT_OFFSET", .int 256 294), ("ENDMARKER", .int 0 196), ("_Accumulator", .ref 125), ("ISTERMINAL", .ref 31), ("ISNONTERMINAL", .ref 38), ("ISEOF", .ref 45), ("_strcoll", .ref 136), ("_strxfrm", .ref 143),
  ("_build_localename", .ref 150), ("_law_cells", .ref 157), ("_law_ties", .ref 162), ("_law_names", .ref 167), ("_law_side", .ref 174), ("_law_sign", .ref 181), ("_law_orders", .ref 186), ("_law_lesser", .ref 193),
  ("_law_counts", .ref 200), ("_law_apart", .ref 205), ("_law_paints", .ref 210), ("_law_rising", .ref 217), ("law", .ref 222)]
structure LawF (W : Wd) (P : Params) : Prop where
  af : AccF W P
  bu : BuiltM W
  mg : ∀ (x : Str) (v : Value), mgTab.lookup x = some v → W.mg x = some v
  tok : DictG W "EXACT_TOKEN_TYPES" 22 tokG
section
variable {W : Wd} {n m : Nat} {Γ : Sc} {P : Params}
theorem RefFn.lift {fv : Addr} {F : Fn} (h : RefFn W m fv F) (hn : m ≤ n) : RefFn W n fv F :=
  fun A E s h₀ ρ φ l H k Q vals xs hR R r e hP => h A E s h₀ ρ φ l H k Q vals xs (hR.less hn) R r e hP
theorem Ref.callE {x : Str} {fv : Addr} {F : Fn} {es : List PySem.Expr} {Fs : List C} {p pos : Pos} (hx : Γ.sc.names.lookup x = some .globalImplicit) (hg : W.mg x = some (.ref fv)) (hA : ∃ fd, FnAt W fv fd) (hF : RefFn W n fv F) (hr : Refs W n Γ es Fs)
    (hd : (x == ("__debug__" : Str)) = false := by decide +kernel) : Ref W n Γ (.Call (.Name x p) es [] pos) (cCall F Fs) := by
  obtain ⟨fd, hA⟩ := hA
  exact Ref.call hx hg hA hF hr hd
theorem bi_len (h : Γ.sc.names.lookup ("len" : Str) = some .globalImplicit) : BiFn Γ "len" (.builtin "len") := ⟨h, by decide +kernel, by decide +kernel, by decide +kernel, by decide +kernel⟩
theorem bi_sum (h : Γ.sc.names.lookup ("sum" : Str) = some .globalImplicit) : BiFn Γ "sum" (.builtin "sum") := ⟨h, by decide +kernel, by decide +kernel, by decide +kernel, by decide +kernel⟩
theorem bi_min (h : Γ.sc.names.lookup ("min" : Str) = some .globalImplicit) : BiFn Γ "min" (.builtin "min") := ⟨h, by decide +kernel, by decide +kernel, by decide +kernel, by decide +kernel⟩
theorem bi_max (h : Γ.sc.names.lookup ("max" : Str) = some .globalImplicit) : BiFn Γ "max" (.builtin "max") := ⟨h, by decide +kernel, by decide +kernel, by decide +kernel, by decide +kernel⟩
theorem bi_sorted (h : Γ.sc.names.lookup ("sorted" : Str) = some .globalImplicit) : BiFn Γ "sorted" (.builtin "sorted") := ⟨h, by decide +kernel, by decide +kernel, by decide +kernel, by decide +kernel⟩
theorem bi_isinstance (h : Γ.sc.names.lookup ("isinstance" : Str) = some .globalImplicit) : BiFn Γ "isinstance" (.builtin "isinstance") := ⟨h, by decide +kernel, by decide +kernel, by decide +kernel, by decide +kernel⟩
theorem bi_int (h : Γ.sc.names.lookup ("int" : Str) = some .globalImplicit) : BiFn Γ "int" (.type "int") := ⟨h, by decide +kernel, by decide +kernel, by decide +kernel, by decide +kernel⟩
theorem bi_bool (h : Γ.sc.names.lookup ("bool" : Str) = some .globalImplicit) : BiFn Γ "bool" (.type "bool") := ⟨h, by decide +kernel, by decide +kernel, by decide +kernel, by decide +kernel⟩
theorem bi_range (h : Γ.sc.names.lookup ("range" : Str) = some .globalImplicit) : BiFn Γ "range" (.type "range") := ⟨h, by decide +kernel, by decide +kernel, by decide +kernel, by decide +kernel⟩
theorem bi_enumerate (h : Γ.sc.names.lookup ("enumerate" : Str) = some .globalImplicit) : BiFn Γ "enumerate" (.type "enumerate") := ⟨h, by decide +kernel, by decide +kernel, by decide +kernel, by decide +kernel⟩
theorem bi_zip (h : Γ.sc.names.lookup ("zip" : Str) = some .globalImplicit) : BiFn Γ "zip" (.type "zip") := ⟨h, by decide +kernel, by decide +kernel, by decide +kernel, by decide +kernel⟩
end
end Mine
namespace Mine
open PySem PySem.W PyProof.Rows
structure Box (p : Prop) : Prop where
  of ::
  un : p
section
variable {W : Wd} {n : Nat} {Γ Γ' : Sc} {P : Params} {scope : Scope} {own : List Str}
theorem QRef.var {x : Str} {i : Nat} {pos : Pos} (hx : Γ.names.lookup x = some i) (hd : (x == ("__debug__" : Str)) = false := by decide +kernel) (hc : (x == ("__classdict__" : Str)) = false := by decide +kernel) :
    Box (Ref W n Γ (.Name x pos) (cVar i)) := ⟨Ref.var (hx := hx) (hd := hd) (hc := hc)⟩
theorem QRef.int {i : Int} {k : Nat} {pos : Pos} :
    Box (Ref W n Γ (.Constant (.int i) k pos) (cVal (.int i))) := ⟨Ref.int⟩
theorem QRef.str {x : Str} {t : Tx} {k : Nat} {pos : Pos} (hx : x = toStr t := by decide +kernel) :
    Box (Ref W n Γ (.Constant (.str x) k pos) (cVal (.str t))) := ⟨Ref.str (hx := hx)⟩
theorem QRef.cnone {k : Nat} {pos : Pos} :
    Box (Ref W n Γ (.Constant .none k pos) (cVal .none)) := ⟨Ref.cnone⟩
theorem QRef.bool {b : Bool} {k : Nat} {pos : Pos} :
    Box (Ref W n Γ (.Constant (.bool b) k pos) (cVal (.bool b))) := ⟨Ref.bool⟩
theorem QRef.neg {i j : Int} {k : Nat} {p pos : Pos} (h : j = -i := by decide +kernel) :
    Box (Ref W n Γ (.UnaryOp .USub (.Constant (.int i) k p) pos) (cVal (.int j))) := ⟨Ref.neg (h := h)⟩
theorem QRef.bin {a b : PySem.Expr} {F G : C} {o : O2} {op : Operator} {pos : Pos} (ho : Op2 W n o (binaryOp op)) (ha : Box (Ref W n Γ a F)) (hb : Box (Ref W n Γ b G)) :
    Box (Ref W n Γ (.BinOp a op b pos) (cOp2 o F G)) := ⟨Ref.bin (ho := ho) (ha := ha.un) (hb := hb.un)⟩
theorem QRef.cmp {a b : PySem.Expr} {F G : C} {o : O2} {op : CmpOp} {pos : Pos} (ho : Op2 W n o (compareOp op)) (ha : Box (Ref W n Γ a F)) (hb : Box (Ref W n Γ b G)) (hm : behindInMarks op b = false := by with_unfolding_all rfl) :
    Box (Ref W n Γ (.Compare a [op] [b] pos) (cOp2 o F G)) := ⟨Ref.cmp (ho := ho) (ha := ha.un) (hb := hb.un) (hm := hm)⟩
theorem QRefB.cmp {a b : PySem.Expr} {F G : C} {o : O2} {op : CmpOp} {pos : Pos} (ho : Op2 W n o (compareOp op)) (ha : Box (Ref W n Γ a F)) (hb : Box (Ref W n Γ b G)) (hm : behindInMarks op b = false := by with_unfolding_all rfl) :
    Box (RefB W n Γ (.Compare a [op] [b] pos) (bC (cOp2 o F G))) := ⟨RefB.cmp (ho := ho) (ha := ha.un) (hb := hb.un) (hm := hm)⟩
theorem QRefB.val {e : PySem.Expr} {F : C} (ha : Box (Ref W n Γ e F)) (he : ∀ (env : Env) (t : Sem Value), isTrue e env t = (do let v ← t; standAt e.pos; holding [v] (truthy v)) := by intro _ _; kernel_rfl) :
    Box (RefB W n Γ e (bC F)) := ⟨RefB.val (ha := ha.un) (he := he)⟩
theorem QRefB.not {e : PySem.Expr} {F : B} {pos : Pos} (ha : Box (RefB W n Γ e F)) :
    Box (RefB W n Γ (.UnaryOp .Not e pos) (bNot F)) := ⟨RefB.not (ha := ha.un)⟩
theorem QRefB.and {a b : PySem.Expr} {F G : B} {pos : Pos} (ha : Box (RefB W n Γ a F)) (hb : Box (RefB W n Γ b G)) :
    Box (RefB W n Γ (.BoolOp .And [a, b] pos) (bAnd F G)) := ⟨RefB.and (ha := ha.un) (hb := hb.un)⟩
theorem QRefB.or {a b : PySem.Expr} {F G : B} {pos : Pos} (ha : Box (RefB W n Γ a F)) (hb : Box (RefB W n Γ b G)) :
    Box (RefB W n Γ (.BoolOp .Or [a, b] pos) (bOr F G)) := ⟨RefB.or (ha := ha.un) (hb := hb.un)⟩
theorem QRef.ifexp {t a b : PySem.Expr} {T : B} {F G : C} {pos : Pos} (ht : Box (RefB W n Γ t T)) (ha : Box (Ref W n Γ a F)) (hb : Box (Ref W n Γ b G)) :
    Box (Ref W n Γ (.IfExp t a b pos) (cIf T F G)) := ⟨Ref.ifexp (ht := ht.un) (ha := ha.un) (hb := hb.un)⟩
theorem QRefs.cons {e : PySem.Expr} {F : C} {es : List PySem.Expr} {Fs : List C} (he : Box (Ref W n Γ e F)) (hs : ∀ (rest : List PySem.Expr) (env : Env), starEach (e :: rest) env = (false, PySem.eval e env) :: starEach rest env) (h : Refs W n Γ es Fs) :
    Refs W n Γ (e :: es) (F :: Fs) := Refs.cons (he := he.un) (hs := hs) (h := h)
theorem QRef.list {es : List PySem.Expr} {Fs : List C} {pos : Pos} (he : Refs W n Γ es Fs) (hz : es.length ≤ 1000 := by decide) :
    Box (Ref W n Γ (.List es pos) (cList Fs)) := ⟨Ref.list (he := he) (hz := hz)⟩
theorem QRef.tup {es : List PySem.Expr} {Fs : List C} {pos : Pos} {x : Nat} (he : Refs W n Γ es Fs) :
    Box (Ref W n Γ (.Tuple es x pos) (cTup Fs)) := ⟨Ref.tup (he := he)⟩
theorem QRef.dict {pos : Pos} :
    Box (Ref W n Γ (.Dict [] [] pos) cDict) := ⟨Ref.dict⟩
theorem QRef.item {a b : PySem.Expr} {F G : C} {o : O2} {pos : Pos} (ho : OpS W n o) (ha : Box (Ref W n Γ a F)) (hb : Box (Ref W n Γ b G)) (hs : ∀ o i : Value, subscripted b false o i = operate [o, i] (getItem o i) := by intro _ _; kernel_rfl) :
    Box (Ref W n Γ (.Subscript a b pos) (cOp2 o F G)) := ⟨Ref.item (ho := ho) (ha := ha.un) (hb := hb.un) (hs := hs)⟩
theorem QRef.toL {a b : PySem.Expr} {F G : C} {p pos : Pos} (ha : Box (Ref W n Γ a F)) (hb : Box (Ref W n Γ b G)) (ht : ∀ o r : Value, letTemporaryGo a o r = pure () := by intro _ _; kernel_rfl) :
    Box (Ref W n Γ (.Subscript a (.Slice none (some b) none p) pos) (cOp2 oToL F G)) := ⟨Ref.toL (ha := ha.un) (hb := hb.un) (ht := ht)⟩
theorem QRef.fromL {a b : PySem.Expr} {F G : C} {p pos : Pos} (ha : Box (Ref W n Γ a F)) (hb : Box (Ref W n Γ b G)) (ht : ∀ o r : Value, letTemporaryGo a o r = pure () := by intro _ _; kernel_rfl) :
    Box (Ref W n Γ (.Subscript a (.Slice (some b) none none p) pos) (cOp2 oFromL F G)) := ⟨Ref.fromL (ha := ha.un) (hb := hb.un) (ht := ht)⟩
theorem QRef.revL {a : PySem.Expr} {F : C} {k₀ : Nat} {p p1 p2 pos : Pos} (ha : Box (Ref W n Γ a F)) (ht : ∀ o r : Value, letTemporaryGo a o r = pure () := by intro _ _; kernel_rfl) :
    Box (Ref W n Γ (.Subscript a (.Slice none none (some (.UnaryOp .USub (.Constant (.int 1) k₀ p1) p2)) p) pos) (cOp1 oRevL F)) := ⟨Ref.revL (ha := ha.un) (ht := ht)⟩
theorem QRef.cutS {a b c : PySem.Expr} {F G J : C} {p pos : Pos} (ha : Box (Ref W n Γ a F)) (hb : Box (Ref W n Γ b G)) (hc : Box (Ref W n Γ c J)) (ht : ∀ o r : Value, letTemporaryGo a o r = pure () := by intro _ _; kernel_rfl) :
    Box (Ref W n Γ (.Subscript a (.Slice (some b) (some c) none p) pos) (cOp3 oCutS F G J)) := ⟨Ref.cutS (ha := ha.un) (hb := hb.un) (hc := hc.un) (ht := ht)⟩
theorem QRef.bi1 {x : Str} {id : String} {o : O1} {a : PySem.Expr} {F : C} {p pos : Pos} (b : BiFn Γ x (.builtin id)) (ho : Op1 W n o (fun v => call (.builtin id) [v])) (ha : Box (Ref W n Γ a F)) (hs : ∀ (rest : List PySem.Expr) (env : Env), starEach (a :: rest) env = (false, eval a env) :: starEach rest env := by intro _ _; kernel_rfl) :
    Box (Ref W n Γ (.Call (.Name x p) [a] [] pos) (cOp1 o F)) := ⟨Ref.bi1 (b := b) (ho := ho) (ha := ha.un) (hs := hs)⟩
theorem QRef.ty1 {x : Str} {T : String} {o : O1} {a : PySem.Expr} {F : C} {p pos : Pos} (b : BiFn Γ x (.type T)) (ho : Op1 W n o (fun v => call (.type T) [v])) (ha : Box (Ref W n Γ a F)) (hs : ∀ (rest : List PySem.Expr) (env : Env), starEach (a :: rest) env = (false, eval a env) :: starEach rest env := by intro _ _; kernel_rfl) :
    Box (Ref W n Γ (.Call (.Name x p) [a] [] pos) (cOp1 o F)) := ⟨Ref.ty1 (b := b) (ho := ho) (ha := ha.un) (hs := hs)⟩
theorem QRef.isBool {x y : Str} {a : PySem.Expr} {F : C} {p p2 pos : Pos} (b : BiFn Γ x (.builtin "isinstance")) (b2 : BiFn Γ y (.type "bool")) (ha : Box (Ref W n Γ a F)) (hs : ∀ (rest : List PySem.Expr) (env : Env), starEach (a :: rest) env = (false, eval a env) :: starEach rest env := by intro _ _; kernel_rfl) :
    Box (Ref W n Γ (.Call (.Name x p) [a, .Name y p2] [] pos) (cOp1 oIsBool F)) := ⟨Ref.isBool (b := b) (b2 := b2) (ha := ha.un) (hs := hs)⟩
theorem QRef.meth {T : String} {name : Str} {id : String} {t : V → Hp → Bool} {o : O2} {e a : PySem.Expr} {F G : C} {apos pos : Pos} (m : Meth T name id) (ht : TellsT W t T) (ho : Op2 W n o (fun a b => call (.builtin id) [a, b])) (he : Box (Ref W n Γ e F)) (ha : Box (Ref W n Γ a G)) (hs : ∀ (rest : List PySem.Expr) (env : Env), starEach (a :: rest) env = (false, eval a env) :: starEach rest env := by intro _ _; kernel_rfl) (hbase : ∀ env : Env, attributeBase e name env (eval e env) = eval e env := by intro _; kernel_rfl) (hline : (apos.endLine == pos.line) = true := by decide +kernel) :
    Box (Ref W n Γ (.Call (.Attribute e name apos) [a] [] pos) (cM t o F G)) := ⟨Ref.meth (m := m) (ht := ht) (ho := ho) (he := he.un) (ha := ha.un) (hs := hs) (hbase := hbase) (hline := hline)⟩
theorem QRef.callE {x : Str} {fv : Addr} {F : Fn} {es : List PySem.Expr} {Fs : List C} {p pos : Pos} (hx : Γ.sc.names.lookup x = some .globalImplicit) (hg : W.mg x = some (.ref fv)) (hA : ∃ fd, FnAt W fv fd) (hF : RefFn W n fv F) (hr : Refs W n Γ es Fs) (hd : (x == ("__debug__" : Str)) = false := by decide +kernel) :
    Box (Ref W n Γ (.Call (.Name x p) es [] pos) (cCall F Fs)) := ⟨Ref.callE (hx := hx) (hg := hg) (hA := hA) (hF := hF) (hr := hr) (hd := hd)⟩
theorem QRef.sorted {e : PySem.Expr} {F : C} {x f : Str} {fv : Addr} {Fid : Fn} {p p2 kp pos : Pos} (b : BiFn Γ x (.builtin "sorted")) (hf : Γ.sc.names.lookup f = some .globalImplicit) (hg : W.mg f = some (.ref fv)) (hF : RefFn W n fv Fid) (hid : IdFn Fid) (he : Box (Ref W (n + 2) Γ e F)) (hd : (f == ("__debug__" : Str)) = false := by decide +kernel) (hs : ∀ (rest : List PySem.Expr) (env : Env), starEach (e :: rest) env = (false, eval e env) :: starEach rest env := by intro _ _; kernel_rfl) :
    Box (Ref W (n + 2) Γ (.Call (.Name x p) [e] [⟨some "key", .Name f p2, kp⟩] pos) (cOp1 oSorted F)) := ⟨Ref.sorted (b := b) (hf := hf) (hg := hg) (hF := hF) (hid := hid) (he := he.un) (hd := hd) (hs := hs)⟩
theorem QRef.gInt {x : Str} {i : Int} {pos : Pos} (hx : Γ.sc.names.lookup x = some .globalImplicit) (hg : ∃ t, W.mg x = some (.int i t)) (hd : (x == ("__debug__" : Str)) = false := by decide +kernel) :
    Box (Ref W n Γ (.Name x pos) (cVal (.int i))) := ⟨Ref.gInt (hx := hx) (hg := hg) (hd := hd)⟩
theorem QRefB.inG {x : Str} {d : Addr} {es : List (Tx × Option Int)} {a : PySem.Expr} {F : C} {p2 pos : Pos} (D : DictG W x d es) (hx : Γ.sc.names.lookup x = some .globalImplicit) (ha : Box (Ref W n Γ a F)) (hd : (x == ("__debug__" : Str)) = false := by decide +kernel) (hm : behindInMarks .In (.Name x p2) = false := by with_unfolding_all rfl) :
    Box (RefB W n Γ (.Compare a [.In] [.Name x p2] pos) (bC (cOp1 (oInG es) F))) := ⟨RefB.inG (D := D) (hx := hx) (ha := ha.un) (hd := hd) (hm := hm)⟩
theorem QRef.getG {x : Str} {d : Addr} {es : List (Tx × Option Int)} {b : PySem.Expr} {F : C} {p1 pos : Pos} (D : DictG W x d es) (hx : Γ.sc.names.lookup x = some .globalImplicit) (hb : Box (Ref W n Γ b F)) (hd : (x == ("__debug__" : Str)) = false := by decide +kernel) (hs : ∀ o i : Value, subscripted b false o i = operate [o, i] (getItem o i) := by intro _ _; kernel_rfl) :
    Box (Ref W n Γ (.Subscript (.Name x p1) b pos) (cOp1 (oGetG es) F)) := ⟨Ref.getG (D := D) (hx := hx) (hb := hb.un) (hd := hd) (hs := hs)⟩
theorem QRef.replace {e : PySem.Expr} {F : C} {ws : Str} {w a i b j : Nat} {k1 k2 k3 k4 : Nat} {pw p1 p2 p3 p4 qw q1 q2 q3 q4 apos pos : Pos} (he : Box (Ref W n Γ e F)) (hw : Γ.names.lookup ws = some w) (hb : a < 4096 ∧ i < 4096) (hb' : b < 4096 ∧ j < 4096) (hbase : ∀ env : Env, attributeBase e "replace" env (eval e env) = eval e env := by intro _; kernel_rfl) (hline : (apos.endLine == pos.line) = true := by decide +kernel) (hd : (ws == ("__debug__" : Str)) = false := by decide +kernel) (hc : (ws == ("__classdict__" : Str)) = false := by decide +kernel) :
    Box (Ref W n Γ (.Call (.Attribute e "replace" apos) [.Subscript (.Subscript (.Name ws pw) (.Constant (.int (a : Int)) k1 p1) p2) (.Constant (.int (i : Int)) k2 p3) p4,
      .Subscript (.Subscript (.Name ws qw) (.Constant (.int (b : Int)) k3 q1) q2) (.Constant (.int (j : Int)) k4 q3) q4] [] pos) (cReplace F w a i b j)) := ⟨Ref.replace (he := he.un) (hw := hw) (hb := hb) (hb' := hb') (hbase := hbase) (hline := hline) (hd := hd) (hc := hc)⟩
theorem QRef.comp {elt target iter : PySem.Expr} {ifs : List PySem.Expr} {rest : List Comprehension} {pos : Pos} {after : Value → Env → Sem Unit} {tup : Bool} {is : List Nat} {it : It} {g g' : G} {m : Nat} (cs : CompSc Γ Γ' scope own) (hm : m = own.length + 1) (hL : IsLoop (.ListComp elt (⟨target, iter, ifs, 0⟩ :: rest) scope pos) 0 target iter ifs after) (hit : RefIt W n Γ iter tup it) (ht : Tgt Γ' target tup is) (hi : RefI W n Γ' ifs g g') (ha : Box (RefA W n Γ' after g)) :
    Box (Ref W n Γ (.ListComp elt (⟨target, iter, ifs, 0⟩ :: rest) scope pos) (cComp m is it g')) := ⟨Ref.comp (cs := cs) (hm := hm) (hL := hL) (hit := hit) (ht := ht) (hi := hi) (ha := ha.un)⟩
theorem QRef1.setComp {elt target iter : PySem.Expr} {ifs : List PySem.Expr} {rest : List Comprehension} {pos spos : Pos} {after : Value → Env → Sem Unit} {tup : Bool} {is : List Nat} {it : It} {g g' : G} {m i : Nat} {y : Str} {py : Pos} (cs : CompSc Γ Γ' scope own) (hm : m = own.length + 1) (hL : IsLoop (.ListComp elt (⟨target, iter, ifs, 0⟩ :: rest) scope pos) 0 target iter ifs after) (hit : RefIt W n Γ iter tup it) (ht : Tgt Γ' target tup is) (hi : RefI W n Γ' ifs g g') (ha : Box (RefA W n Γ' after g)) (hx : Γ.names.lookup y = some i) (hf : Γ.sc.names.lookup y ≠ some .free) (hsw : ∀ env : Env, env.scope = Γ.sc → swapsWith (.ListComp elt (⟨target, iter, ifs, 0⟩ :: rest) scope pos) (some (.Name y py)) spos.line env = pure true) :
    Box (Ref1 W n Γ (.Assign [.Name y py] (.ListComp elt (⟨target, iter, ifs, 0⟩ :: rest) scope pos) spos) (sSet i (cComp m is it g'))) := ⟨Ref1.setComp (cs := cs) (hm := hm) (hL := hL) (hit := hit) (ht := ht) (hi := hi) (ha := ha.un) (hx := hx) (hf := hf) (hsw := hsw)⟩
theorem QRefA.elt {e : PySem.Expr} {F : C} (he : Box (Ref W n Γ e F)) :
    Box (RefA W n Γ (emitL e) (gElt F)) := ⟨RefA.elt (he := he.un)⟩
theorem QRefA.for {elt target iter target' iter' : PySem.Expr} {ifs ifs' : List PySem.Expr} {scope : Scope} {pos : Pos} {tup : Bool} {is : List Nat} {it : It} {F : C} {g' : G} (hit : RefIt W n Γ iter tup it) (ht : Tgt Γ target tup is) (he : Box (Ref W n Γ elt F)) (hi : RefI W n Γ ifs (gElt F) g') :
    Box (RefA W n Γ (innerL (.ListComp elt [⟨target', iter', ifs', 0⟩, ⟨target, iter, ifs, 0⟩] scope pos) iter 1) (gFor is it g')) := ⟨RefA.for (hit := hit) (ht := ht) (he := he.un) (hi := hi)⟩
theorem QRefI.one {t : PySem.Expr} {T : B} {g : G} (ht : Box (RefB W n Γ t T)) :
    RefI W n Γ [t] g (gIf T g) := RefI.one (ht := ht.un)
theorem QRefIt.list {e : PySem.Expr} {F : C} (he : Box (Ref W n Γ e F)) (hf : ∀ (env : Env) (x : Value), foldedSetIterable e env x = pure x := by intro _ _; kernel_rfl) :
    RefIt W n Γ e false (iList F) := RefIt.list (he := he.un) (hf := hf)
theorem QRefIt.listT {e : PySem.Expr} {F : C} {m : Nat} (he : Box (Ref W n Γ e F)) (hf : ∀ (env : Env) (x : Value), foldedSetIterable e env x = pure x := by intro _ _; kernel_rfl) :
    RefIt W n Γ e true (iListT m F) := RefIt.listT (he := he.un) (hf := hf)
theorem QRefIt.range {e : PySem.Expr} {F : C} {x : Str} {p pos : Pos} (b : BiFn Γ x (.type "range")) (he : Box (Ref W n Γ e F)) (hs : ∀ (rest : List PySem.Expr) (env : Env), starEach (e :: rest) env = (false, eval e env) :: starEach rest env := by intro _ _; kernel_rfl) (hf : ∀ (env : Env) (v : Value), foldedSetIterable (.Call (.Name x p) [e] [] pos) env v = pure v := by intro _ _; kernel_rfl) :
    RefIt W n Γ (.Call (.Name x p) [e] [] pos) false (iRange F) := RefIt.range (b := b) (he := he.un) (hs := hs) (hf := hf)
theorem QRefIt.range2 {e f : PySem.Expr} {F G : C} {x : Str} {p pos : Pos} (b : BiFn Γ x (.type "range")) (he : Box (Ref W n Γ e F)) (hf : Box (Ref W n Γ f G)) (hs : ∀ (rest : List PySem.Expr) (env : Env), starEach (e :: rest) env = (false, eval e env) :: starEach rest env := by intro _ _; kernel_rfl) (hs' : ∀ (rest : List PySem.Expr) (env : Env), starEach (f :: rest) env = (false, eval f env) :: starEach rest env := by intro _ _; kernel_rfl) (hfold : ∀ (env : Env) (v : Value), foldedSetIterable (.Call (.Name x p) [e, f] [] pos) env v = pure v := by intro _ _; kernel_rfl) :
    RefIt W n Γ (.Call (.Name x p) [e, f] [] pos) false (iRange2 F G) := RefIt.range2 (b := b) (he := he.un) (hf := hf.un) (hs := hs) (hs' := hs') (hfold := hfold)
theorem QRefIt.enum {e : PySem.Expr} {F : C} {x : Str} {p pos : Pos} (b : BiFn Γ x (.type "enumerate")) (he : Box (Ref W n Γ e F)) (hs : ∀ (rest : List PySem.Expr) (env : Env), starEach (e :: rest) env = (false, eval e env) :: starEach rest env := by intro _ _; kernel_rfl) (hf : ∀ (env : Env) (v : Value), foldedSetIterable (.Call (.Name x p) [e] [] pos) env v = pure v := by intro _ _; kernel_rfl) :
    RefIt W n Γ (.Call (.Name x p) [e] [] pos) true (iEnum F) := RefIt.enum (b := b) (he := he.un) (hs := hs) (hf := hf)
theorem QRefIt.zip {e f : PySem.Expr} {F G : C} {x : Str} {p pos : Pos} (b : BiFn Γ x (.type "zip")) (he : Box (Ref W n Γ e F)) (hf : Box (Ref W n Γ f G)) (hs : ∀ (rest : List PySem.Expr) (env : Env), starEach (e :: rest) env = (false, eval e env) :: starEach rest env := by intro _ _; kernel_rfl) (hs' : ∀ (rest : List PySem.Expr) (env : Env), starEach (f :: rest) env = (false, eval f env) :: starEach rest env := by intro _ _; kernel_rfl) (hfold : ∀ (env : Env) (v : Value), foldedSetIterable (.Call (.Name x p) [e, f] [] pos) env v = pure v := by intro _ _; kernel_rfl) :
    RefIt W n Γ (.Call (.Name x p) [e, f] [] pos) true (iZip F G) := RefIt.zip (b := b) (he := he.un) (hf := hf.un) (hs := hs) (hs' := hs') (hfold := hfold)
theorem QRefIt.vals {e : PySem.Expr} {F : C} {apos pos : Pos} (he : Box (Ref W n Γ e F)) (hbase : ∀ env : Env, attributeBase e "values" env (eval e env) = eval e env := by intro _; kernel_rfl) (hline : (apos.endLine == pos.line) = true := by kernel_rfl) (hf : ∀ (env : Env) (v : Value), foldedSetIterable (.Call (.Attribute e "values" apos) [] [] pos) env v = pure v := by intro _ _; kernel_rfl) :
    RefIt W n Γ (.Call (.Attribute e "values" apos) [] [] pos) false (iVals F) := RefIt.vals (he := he.un) (hbase := hbase) (hline := hline) (hf := hf)
theorem QRefS.nil  :
    Box (RefS W n Γ [] (sBlock [])) := ⟨RefS.nil⟩
theorem QRefS.cons {st : Stmt} {sts : List Stmt} {b : S} {bs : List S} (h1 : Box (Ref1 W n Γ st b)) (h2 : Box (RefS W n Γ sts (sBlock bs))) :
    Box (RefS W n Γ (st :: sts) (sBlock (b :: bs))) := ⟨RefS.cons (h1 := h1.un) (h2 := h2.un)⟩
theorem QRef1.ret {e : PySem.Expr} {F : C} {pos : Pos} (he : Box (Ref W n Γ e F)) :
    Box (Ref1 W n Γ (.Return (some e) pos) (sRet F)) := ⟨Ref1.ret (he := he.un)⟩
theorem QRef1.brk {pos : Pos} :
    Box (Ref1 W n Γ (.Break pos) sBrk) := ⟨Ref1.brk⟩
theorem QRef1.expr {e : PySem.Expr} {F : C} {pos : Pos} (he : Box (Ref W n Γ e F)) (hs : ∀ env : Env, swapsWith e none pos.line env = pure false := by intro _; kernel_rfl) :
    Box (Ref1 W n Γ (.Expr e pos) (sExpr F)) := ⟨Ref1.expr (he := he.un) (hs := hs)⟩
theorem QRef1.set {e : PySem.Expr} {F : C} {x : Str} {i : Nat} {p pos : Pos} (he : Box (Ref W n Γ e F)) (hx : Γ.names.lookup x = some i) (hf : Γ.sc.names.lookup x ≠ some .free := by decide +kernel) (hs : ∀ env : Env, env.scope = Γ.sc → swapsWith e (some (.Name x p)) pos.line env = pure false := by intro _ _; kernel_rfl) :
    Box (Ref1 W n Γ (.Assign [.Name x p] e pos) (sSet i F)) := ⟨Ref1.set (he := he.un) (hx := hx) (hf := hf) (hs := hs)⟩
theorem QRef1.cond {t : PySem.Expr} {T : B} {a b : List Stmt} {F G : S} {pos : Pos} (ht : Box (RefB W n Γ t T)) (ha : Box (RefS W n Γ a F)) (hb : Box (RefS W n Γ b G)) :
    Box (Ref1 W n Γ (.If t a b pos) (sIf T F G)) := ⟨Ref1.cond (ht := ht.un) (ha := ha.un) (hb := hb.un)⟩
theorem QRef1.aug {e : PySem.Expr} {F : C} {x : Str} {i : Nat} {o : O2} {op : Operator} {p pos : Pos} (ho : Op2 W n o (inplaceOp op)) (he : Box (Ref W n Γ e F)) (hx : Γ.names.lookup x = some i) (hf : Γ.sc.names.lookup x ≠ some .free := by decide +kernel) (hc : (x == ("__classdict__" : Str)) = false := by decide +kernel) :
    Box (Ref1 W n Γ (.AugAssign (.Name x p) op e pos) (sAug o i F)) := ⟨Ref1.aug (ho := ho) (he := he.un) (hx := hx) (hf := hf) (hc := hc)⟩
theorem QRef1.unpack {e : PySem.Expr} {F : C} {ts : List PySem.Expr} {is : List Nat} {x1 : Nat} {p pos : Pos} (he : Box (Ref W n Γ e F)) (hn : NamesAt Γ ts is) (hs : ∀ env : Env, swapsWithSole [.Tuple ts x1 p] e pos.line env = pure false := by intro _; kernel_rfl) (hw : ∀ env : Env, swappedStores [.Tuple ts x1 p] e env = pure none := by intro _; kernel_rfl) :
    Box (Ref1 W n Γ (.Assign [.Tuple ts x1 p] e pos) (sUnpack is F)) := ⟨Ref1.unpack (he := he.un) (hn := hn) (hs := hs) (hw := hw)⟩
theorem QRef1.sets {es : List PySem.Expr} {Fs : List C} {ts : List PySem.Expr} {is : List Nat} {x1 x2 : Nat} {p p2 pos : Pos} (he : Refs W n Γ es Fs) (hn : NamesAt Γ ts is) (hz : is.length ≤ 1000 := by decide) (hz' : es.length ≤ 1000 := by decide) (hs : ∀ env : Env, swapsWithSole [.Tuple ts x1 p] (.Tuple es x2 p2) pos.line env = pure false := by intro _; kernel_rfl) (hw : ∀ env : Env, env.scope = Γ.sc → swappedStores [.Tuple ts x1 p] (.Tuple es x2 p2) env = pure none) :
    Box (Ref1 W n Γ (.Assign [.Tuple ts x1 p] (.Tuple es x2 p2) pos) (sSets is Fs)) := ⟨Ref1.sets (he := he) (hn := hn) (hz := hz) (hz' := hz') (hs := hs) (hw := hw)⟩
theorem QRef1.setsR {es : List PySem.Expr} {Fs : List C} {ts : List PySem.Expr} {is : List Nat} {names : List Str} {x1 x2 : Nat} {p p2 pos : Pos} (he : Refs W n Γ es Fs) (hlen : names.reverse.length = is.length) (hx : ∀ (i : Nat) (x : Str) (j : Nat), names.reverse[i]? = some x → is[i]? = some j → Γ.names.lookup x = some j ∧ Γ.sc.names.lookup x ≠ some .free) (hz : is.length ≤ 1000 := by decide) (hz' : es.length ≤ 1000 := by decide) (hs : ∀ env : Env, swapsWithSole [.Tuple ts x1 p] (.Tuple es x2 p2) pos.line env = pure false := by intro _; kernel_rfl) (hw : ∀ env : Env, env.scope = Γ.sc → swappedStores [.Tuple ts x1 p] (.Tuple es x2 p2) env = pure (some names)) :
    Box (Ref1 W n Γ (.Assign [.Tuple ts x1 p] (.Tuple es x2 p2) pos) (sSetsR is Fs)) := ⟨Ref1.setsR (he := he) (hlen := hlen) (hx := hx) (hz := hz) (hz' := hz') (hs := hs) (hw := hw)⟩
theorem QRef1.for {e : PySem.Expr} {tup : Bool} {it : It} {target : PySem.Expr} {is : List Nat} {body : List Stmt} {b : S} {pos : Pos} (hi : RefIt W n Γ e tup it) (ht : Tgt Γ target tup is) (hb : Box (RefS W n Γ body b)) :
    Box (Ref1 W n Γ (.For target e body [] pos) (sFor is it b)) := ⟨Ref1.for (hi := hi) (ht := ht) (hb := hb.un)⟩
theorem QRef1.while {t : PySem.Expr} {T : B} {m : Nat} {body : List Stmt} {b : S} {pos : Pos} (ht : Box (RefB W n Γ t T)) (hb : Box (RefS W n Γ body b)) :
    Box (Ref1 W n Γ (.While t body [] pos) (sWhile m T b)) := ⟨Ref1.while (ht := ht.un) (hb := hb.un)⟩
theorem QRef1.setL {e d i : PySem.Expr} {F G J : C} {p pos : Pos} (he : Box (Ref W n Γ e F)) (hd : Box (Ref W n Γ d G)) (hi : Box (Ref W n Γ i J)) (hs : ∀ env : Env, swapsWith e (some (.Subscript d i p)) pos.line env = pure false := by intro _; kernel_rfl) :
    Box (Ref1 W n Γ (.Assign [.Subscript d i p] e pos) (sSetL F G J)) := ⟨Ref1.setL (he := he.un) (hd := hd.un) (hi := hi.un) (hs := hs)⟩
theorem QRef1.augL {e d i : PySem.Expr} {F G J : C} {p pos : Pos} (hd : Box (Ref W n Γ d G)) (hi : Box (Ref W n Γ i J)) (he : Box (Ref W n Γ e F)) (hs : ∀ ov iv new, augStore i ov iv new = (do holding [new, ov, iv] (setItem ov iv new); release [new, ov, iv] []; pure .next) := by intros; kernel_rfl) :
    Box (Ref1 W n Γ (.AugAssign (.Subscript d i p) .Add e pos) (sAugL G J F)) := ⟨Ref1.augL (hd := hd.un) (hi := hi.un) (he := he.un) (hs := hs)⟩
theorem QRef1.setD {e d i : PySem.Expr} {F G J : C} {p pos : Pos} (he : Box (Ref W n Γ e F)) (hd : Box (Ref W n Γ d G)) (hi : Box (Ref W n Γ i J)) (hs : ∀ env : Env, swapsWith e (some (.Subscript d i p)) pos.line env = pure false := by intro _; kernel_rfl) :
    Box (Ref1 W n Γ (.Assign [.Subscript d i p] e pos) (sSetD F G J)) := ⟨Ref1.setD (he := he.un) (hd := hd.un) (hi := hi.un) (hs := hs)⟩
theorem QRef1.try {body : List Stmt} {hd : ExceptHandler} {hds : List ExceptHandler} {b : S} {pos : Pos} (hb : Box (RefS W n Γ body b)) :
    Box (Ref1 W n Γ (.Try body (hd :: hds) [] [] pos) b) := ⟨Ref1.try (hb := hb.un)⟩
theorem QRefFn.of {fv : Addr} {fd : FuncData} {body : List Stmt} {b : S} {ns ps : List Str} {m : Nat} (hA : FnAt W fv fd) (hbody : fd.body = .stmts body) (hsc : fd.scope = Γ.sc) (fs : FnSc Γ ns) (hps : ps = ns.take ps.length) (hm : ns.length = ps.length + m) (hbind : ∀ vals : List Value, vals.length = ps.length → bindArgs fd ⟨vals, []⟩ = pure (ps.zip vals)) (hb : Box (RefS W n Γ body b)) (hco : fd.scope.isCoroutine = false) (hgen : fd.scope.isGenerator = false) :
    RefFn W (n + 1) fv (fun args h k => chk (Nat.beq (lenL args) ps.length) (fDef m b args h k)) := RefFn.of (hA := hA) (hbody := hbody) (hsc := hsc) (fs := fs) (hps := hps) (hm := hm) (hbind := hbind) (hb := hb.un) (hco := hco) (hgen := hgen)
theorem QRef.accMeth (af : AccF W P) {name : Str} {fv : Nat} {f : Fn} {e : PySem.Expr} {es : List PySem.Expr} {F : C} {Fs : List C} {apos pos : Pos} {fd : FuncData} (hm : findIn (kfrag.heap_1 P) (.ref 125) name = some (some (.ref fv))) (hfn : (kfrag.heap_1 P).lookup fv = some ⟨.type "function", none, .func fd, #[]⟩) (hnm : (name == Str.ofString "_initial_size") = false) (hF : RefFn W n fv f) (he : Box (Ref W n Γ e F)) (hr : Refs W n Γ es Fs) (hbase : ∀ env : Env, attributeBase e name env (eval e env) = eval e env := by intro _; kernel_rfl) (hline : (apos.endLine == pos.line) = true := by decide +kernel) (hlt : es.length < 30 := by decide) :
    Box (Ref W n Γ (.Call (.Attribute e name apos) es [] pos) (cMeth f F Fs)) := ⟨Ref.accMeth (af := af) (hm := hm) (hfn := hfn) (hnm := hnm) (hF := hF) (he := he.un) (hr := hr) (hbase := hbase) (hline := hline) (hlt := hlt)⟩
theorem QRef.newAcc (af : AccF W P) {a : PySem.Expr} {F : C} {p pos : Pos} (hx : Γ.sc.names.lookup ("_Accumulator" : Str) = some .globalImplicit) (hg : W.mg "_Accumulator" = some (.ref 125)) (ha : Box (Ref W (n + 2) Γ a F)) (hs : ∀ (rest : List PySem.Expr) (env : Env), starEach (a :: rest) env = (false, PySem.eval a env) :: starEach rest env := by intro _ _; kernel_rfl) :
    Box (Ref W (n + 2) Γ (.Call (.Name "_Accumulator" p) [a] [] pos) (cOp1 oNewAcc F)) := ⟨Ref.newAcc (af := af) (hx := hx) (hg := hg) (ha := ha.un) (hs := hs)⟩
end
end Mine
namespace Mine
open PySem PySem.W PyProof.Rows
section
variable {W : Wd} {n : Nat} {Γ : Sc}
theorem op_addL : Op2 W n oAddL (binaryOp .Add) := by
  intro A E s h₀ ρ φ l H k Q a b x y hR R ra rb h hP
  obtain ⟨i, vs, rfl, e1, h1⟩ := asList_of h
  obtain ⟨j, ws, rfl, e2, h2⟩ := asList_of h1
  obtain ⟨hc, h3⟩ := chk_of h2
  have hz := PySem.W.Z.ble_iff.mp hc
  rw [lenL_eq, lenL_eq] at hz
  rw [appL_eq] at h3
  obtain ⟨adr, its, rfl, ha, ⟨n1, hp⟩, hv⟩ := R.h.listAt e1 ra
  obtain ⟨adr2, its2, rfl, ha2, ⟨n2, hp2⟩, hv2⟩ := R.h.listAt e2 rb
  refine PySem.P.add_list hp hp2 ?_ (by rw [List.size_toArray, List.size_toArray, ← hv.len, ← hv2.len, sizeLine_eq]; omega)
  have e : its.toArray ++ its2.toArray = (its ++ its2).toArray := by simp
  rw [e]
  exact hP.new R (obList (hv.app hv2)) h3
end
end Mine
namespace Mine
open PySem PySem.W PyProof.Rows
section
variable {W : Wd} {P : Params}
theorem fnAt_ISTERMINAL (lf : LawF W P) : ∃ fd, FnAt W 31 fd := by
  have hf : (kfrag.heap_1 P).lookup 31 = some ⟨.type "function", _, .func _, _⟩ := rfl
  exact ⟨_, ⟨_, lf.af.X _ _ hf, rfl⟩, codeRec_of lf.af.X (by first | rfl | kernel_rfl), rfl, rfl, rfl⟩
theorem ref_ISTERMINAL (lf : LawF W P) : RefFn W 2 31 f_ISTERMINAL := by
  have hf : (kfrag.heap_1 P).lookup 31 = some ⟨.type "function", _, .func _, _⟩ := rfl
  refine QRefFn.of (n := 1) (Γ := ⟨_, [("x", 0)]⟩) (ns := ["x"]) (ps := ["x"]) (m := 0) ⟨⟨_, lf.af.X _ _ hf, rfl⟩, codeRec_of lf.af.X (by first | rfl | kernel_rfl), rfl, rfl, rfl⟩ rfl rfl
    ⟨by decide +kernel, by decide +kernel, by decide +kernel, by decide +kernel⟩ rfl rfl (fun vals hv => ?_)
    ?_ rfl rfl
  · match vals, hv with
    | [_], _ => rfl
  refine QRefS.cons ?_ ?_
  · refine QRef1.ret ?_
    refine QRef.cmp op_ltI ?_ ?_
    · exact QRef.var (i := 0) (by decide +kernel)
    exact QRef.gInt (i := 256) (by decide +kernel) ⟨_, lf.mg "NT_OFFSET" _ rfl⟩
  exact QRefS.nil
theorem fnAt_ISNONTERMINAL (lf : LawF W P) : ∃ fd, FnAt W 38 fd := by
  have hf : (kfrag.heap_1 P).lookup 38 = some ⟨.type "function", _, .func _, _⟩ := rfl
  exact ⟨_, ⟨_, lf.af.X _ _ hf, rfl⟩, codeRec_of lf.af.X (by first | rfl | kernel_rfl), rfl, rfl, rfl⟩
theorem ref_ISNONTERMINAL (lf : LawF W P) : RefFn W 2 38 f_ISNONTERMINAL := by
  have hf : (kfrag.heap_1 P).lookup 38 = some ⟨.type "function", _, .func _, _⟩ := rfl
  refine QRefFn.of (n := 1) (Γ := ⟨_, [("x", 0)]⟩) (ns := ["x"]) (ps := ["x"]) (m := 0) ⟨⟨_, lf.af.X _ _ hf, rfl⟩, codeRec_of lf.af.X (by first | rfl | kernel_rfl), rfl, rfl, rfl⟩ rfl rfl
    ⟨by decide +kernel, by decide +kernel, by decide +kernel, by decide +kernel⟩ rfl rfl (fun vals hv => ?_)
    ?_ rfl rfl
  · match vals, hv with
    | [_], _ => rfl
  refine QRefS.cons ?_ ?_
  · refine QRef1.ret ?_
    refine QRef.cmp op_geI ?_ ?_
    · exact QRef.var (i := 0) (by decide +kernel)
    exact QRef.gInt (i := 256) (by decide +kernel) ⟨_, lf.mg "NT_OFFSET" _ rfl⟩
  exact QRefS.nil
theorem fnAt_ISEOF (lf : LawF W P) : ∃ fd, FnAt W 45 fd := by
  have hf : (kfrag.heap_1 P).lookup 45 = some ⟨.type "function", _, .func _, _⟩ := rfl
  exact ⟨_, ⟨_, lf.af.X _ _ hf, rfl⟩, codeRec_of lf.af.X (by first | rfl | kernel_rfl), rfl, rfl, rfl⟩
theorem ref_ISEOF (lf : LawF W P) : RefFn W 2 45 f_ISEOF := by
  have hf : (kfrag.heap_1 P).lookup 45 = some ⟨.type "function", _, .func _, _⟩ := rfl
  refine QRefFn.of (n := 1) (Γ := ⟨_, [("x", 0)]⟩) (ns := ["x"]) (ps := ["x"]) (m := 0) ⟨⟨_, lf.af.X _ _ hf, rfl⟩, codeRec_of lf.af.X (by first | rfl | kernel_rfl), rfl, rfl, rfl⟩ rfl rfl
    ⟨by decide +kernel, by decide +kernel, by decide +kernel, by decide +kernel⟩ rfl rfl (fun vals hv => ?_)
    ?_ rfl rfl
  · match vals, hv with
    | [_], _ => rfl
  refine QRefS.cons ?_ ?_
  · refine QRef1.ret ?_
    refine QRef.cmp op_eqI ?_ ?_
    · exact QRef.var (i := 0) (by decide +kernel)
    exact QRef.gInt (i := 0) (by decide +kernel) ⟨_, lf.mg "ENDMARKER" _ rfl⟩
  exact QRefS.nil
theorem fnAt__strcoll (lf : LawF W P) : ∃ fd, FnAt W 136 fd := by
  have hf : (kfrag.heap_1 P).lookup 136 = some ⟨.type "function", _, .func _, _⟩ := rfl
  exact ⟨_, ⟨_, lf.af.X _ _ hf, rfl⟩, codeRec_of lf.af.X (by first | rfl | kernel_rfl), rfl, rfl, rfl⟩
theorem ref__strcoll (lf : LawF W P) : RefFn W 2 136 f__strcoll := by
  have hf : (kfrag.heap_1 P).lookup 136 = some ⟨.type "function", _, .func _, _⟩ := rfl
  refine QRefFn.of (n := 1) (Γ := ⟨_, [("a", 0), ("b", 1)]⟩) (ns := ["a", "b"]) (ps := ["a", "b"]) (m := 0) ⟨⟨_, lf.af.X _ _ hf, rfl⟩, codeRec_of lf.af.X (by first | rfl | kernel_rfl), rfl, rfl, rfl⟩ rfl rfl
    ⟨by decide +kernel, by decide +kernel, by decide +kernel, by decide +kernel⟩ rfl rfl (fun vals hv => ?_)
    ?_ rfl rfl
  · match vals, hv with
    | [_, _], _ => rfl
  refine QRefS.cons ?_ ?_
  · refine QRef1.ret ?_
    refine QRef.bin op_subB ?_ ?_
    · refine QRef.cmp op_gtS ?_ ?_
      · exact QRef.var (i := 0) (by decide +kernel)
      exact QRef.var (i := 1) (by decide +kernel)
    refine QRef.cmp op_ltS ?_ ?_
    · exact QRef.var (i := 0) (by decide +kernel)
    exact QRef.var (i := 1) (by decide +kernel)
  exact QRefS.nil
theorem fnAt__strxfrm (lf : LawF W P) : ∃ fd, FnAt W 143 fd := by
  have hf : (kfrag.heap_1 P).lookup 143 = some ⟨.type "function", _, .func _, _⟩ := rfl
  exact ⟨_, ⟨_, lf.af.X _ _ hf, rfl⟩, codeRec_of lf.af.X (by first | rfl | kernel_rfl), rfl, rfl, rfl⟩
theorem ref__strxfrm (lf : LawF W P) : RefFn W 2 143 f__strxfrm := by
  have hf : (kfrag.heap_1 P).lookup 143 = some ⟨.type "function", _, .func _, _⟩ := rfl
  refine QRefFn.of (n := 1) (Γ := ⟨_, [("s", 0)]⟩) (ns := ["s"]) (ps := ["s"]) (m := 0) ⟨⟨_, lf.af.X _ _ hf, rfl⟩, codeRec_of lf.af.X (by first | rfl | kernel_rfl), rfl, rfl, rfl⟩ rfl rfl
    ⟨by decide +kernel, by decide +kernel, by decide +kernel, by decide +kernel⟩ rfl rfl (fun vals hv => ?_)
    ?_ rfl rfl
  · match vals, hv with
    | [_], _ => rfl
  refine QRefS.cons ?_ ?_
  · refine QRef1.ret ?_
    exact QRef.var (i := 0) (by decide +kernel)
  exact QRefS.nil
theorem fnAt__build_localename (lf : LawF W P) : ∃ fd, FnAt W 150 fd := by
  have hf : (kfrag.heap_1 P).lookup 150 = some ⟨.type "function", _, .func _, _⟩ := rfl
  exact ⟨_, ⟨_, lf.af.X _ _ hf, rfl⟩, codeRec_of lf.af.X (by first | rfl | kernel_rfl), rfl, rfl, rfl⟩
theorem ref__build_localename (lf : LawF W P) : RefFn W 2 150 f__build_localename := by
  have hf : (kfrag.heap_1 P).lookup 150 = some ⟨.type "function", _, .func _, _⟩ := rfl
  refine QRefFn.of (n := 1) (Γ := ⟨_, [("localetuple", 0), ("language", 1), ("encoding", 2)]⟩) (ns := ["localetuple", "language", "encoding"]) (ps := ["localetuple"]) (m := 2) ⟨⟨_, lf.af.X _ _ hf, rfl⟩, codeRec_of lf.af.X (by first | rfl | kernel_rfl), rfl, rfl, rfl⟩ rfl rfl
    ⟨by decide +kernel, by decide +kernel, by decide +kernel, by decide +kernel⟩ rfl rfl (fun vals hv => ?_)
    ?_ rfl rfl
  · match vals, hv with
    | [_], _ => rfl
  refine QRefS.cons ?_ ?_
  · refine QRef1.try ?_
    refine QRefS.cons ?_ ?_
    · refine QRef1.unpack (is := [1, 2]) ?_ (NamesAt.cons (i := 1) (by decide +kernel) (by decide +kernel) (NamesAt.cons (i := 2) (by decide +kernel) (by decide +kernel) NamesAt.nil))
      exact QRef.var (i := 0) (by decide +kernel)
    refine QRefS.cons ?_ ?_
    · refine QRef1.cond ?_ ?_ ?_
      · refine QRefB.cmp op_is ?_ ?_
        · exact QRef.var (i := 1) (by decide +kernel)
        exact QRef.cnone
      · refine QRefS.cons ?_ ?_
        · refine QRef1.set (i := 1) ?_ (by decide +kernel) (hs := by intro _ _; kernel_rfl)
          exact QRef.str (t := [67])
        exact QRefS.nil
      exact QRefS.nil
    refine QRefS.cons ?_ ?_
    · refine QRef1.cond ?_ ?_ ?_
      · refine QRefB.cmp op_is ?_ ?_
        · exact QRef.var (i := 2) (by decide +kernel)
        exact QRef.cnone
      · refine QRefS.cons ?_ ?_
        · refine QRef1.ret ?_
          exact QRef.var (i := 1) (by decide +kernel)
        exact QRefS.nil
      refine QRefS.cons ?_ ?_
      · refine QRef1.ret ?_
        refine QRef.bin op_addS ?_ ?_
        · refine QRef.bin op_addS ?_ ?_
          · exact QRef.var (i := 1) (by decide +kernel)
          exact QRef.str (t := [46])
        exact QRef.var (i := 2) (by decide +kernel)
      exact QRefS.nil
    exact QRefS.nil
  exact QRefS.nil
theorem id_strxfrm : IdFn f__strxfrm := fun x H k => rfl
end
end Mine
namespace Mine
open PySem PySem.W PyProof.Rows
section
variable {W : Wd} {P : Params}
theorem fnAt__law_cells (lf : LawF W P) : ∃ fd, FnAt W 157 fd := by
  have hf : (kfrag.heap_1 P).lookup 157 = some ⟨.type "function", _, .func _, _⟩ := rfl
  exact ⟨_, ⟨_, lf.af.X _ _ hf, rfl⟩, codeRec_of lf.af.X (by first | rfl | kernel_rfl), rfl, rfl, rfl⟩
theorem ref__law_cells (lf : LawF W P) : RefFn W 2 157 f__law_cells := by
  have hf : (kfrag.heap_1 P).lookup 157 = some ⟨.type "function", _, .func _, _⟩ := rfl
  refine QRefFn.of (n := 1) (Γ := ⟨_, [("script", 0), ("cells", 1), ("place", 2), ("number", 3)]⟩) (ns := ["script", "cells", "place", "number"]) (ps := ["script"]) (m := 3) ⟨⟨_, lf.af.X _ _ hf, rfl⟩, codeRec_of lf.af.X (by first | rfl | kernel_rfl), rfl, rfl, rfl⟩ rfl rfl
    ⟨by decide +kernel, by decide +kernel, by decide +kernel, by decide +kernel⟩ rfl rfl (fun vals hv => ?_)
    ?_ rfl rfl
  · match vals, hv with
    | [_], _ => rfl
  refine QRefS.cons ?_ ?_
  · refine QRef1.set (i := 1) ?_ (by decide +kernel) (hs := by intro _ _; kernel_rfl)
    refine QRef.list ?_ (hz := by decide +kernel)
    refine QRefs.cons ?_ (by intro _ _; kernel_rfl) ?_
    · exact QRef.int
    refine QRefs.cons ?_ (by intro _ _; kernel_rfl) ?_
    · exact QRef.int
    exact Refs.nil
  refine QRefS.cons ?_ ?_
  · refine QRef1.for ?_ (Tgt.many (NamesAt.cons (i := 2) (by decide +kernel) (by decide +kernel) (NamesAt.cons (i := 3) (by decide +kernel) (by decide +kernel) NamesAt.nil))) ?_
    · refine QRefIt.enum (bi_enumerate (by decide +kernel)) ?_
      exact QRef.var (i := 0) (by decide +kernel)
    refine QRefS.cons ?_ ?_
    · refine QRef1.setL ?_ ?_ ?_
      · refine QRef.bin op_addI ?_ ?_
        · refine QRef.item op_itemL ?_ ?_
          · exact QRef.var (i := 1) (by decide +kernel)
          refine QRef.bin op_modI ?_ ?_
          · exact QRef.var (i := 2) (by decide +kernel)
          exact QRef.int
        exact QRef.var (i := 3) (by decide +kernel)
      · exact QRef.var (i := 1) (by decide +kernel)
      refine QRef.bin op_modI ?_ ?_
      · exact QRef.var (i := 2) (by decide +kernel)
      exact QRef.int
    exact QRefS.nil
  refine QRefS.cons ?_ ?_
  · refine QRef1.ret ?_
    exact QRef.var (i := 1) (by decide +kernel)
  exact QRefS.nil
theorem fnAt__law_ties (lf : LawF W P) : ∃ fd, FnAt W 162 fd := by
  have hf : (kfrag.heap_1 P).lookup 162 = some ⟨.type "function", _, .func _, _⟩ := rfl
  exact ⟨_, ⟨_, lf.af.X _ _ hf, rfl⟩, codeRec_of lf.af.X (by first | rfl | kernel_rfl), rfl, rfl, rfl⟩
theorem ref__law_ties (lf : LawF W P) : RefFn W 2 162 f__law_ties := by
  have hf : (kfrag.heap_1 P).lookup 162 = some ⟨.type "function", _, .func _, _⟩ := rfl
  refine QRefFn.of (n := 1) (Γ := ⟨_, [("cell", 0), ("pairs", 1)]⟩) (ns := ["cell", "pairs"]) (ps := ["cell"]) (m := 1) ⟨⟨_, lf.af.X _ _ hf, rfl⟩, codeRec_of lf.af.X (by first | rfl | kernel_rfl), rfl, rfl, rfl⟩ rfl rfl
    ⟨by decide +kernel, by decide +kernel, by decide +kernel, by decide +kernel⟩ rfl rfl (fun vals hv => ?_)
    ?_ rfl rfl
  · match vals, hv with
    | [_], _ => rfl
  refine QRefS.cons ?_ ?_
  · refine QRef1.set (i := 1) ?_ (by decide +kernel) (hs := by intro _ _; kernel_rfl)
    refine QRef.list ?_ (hz := by decide +kernel)
    refine QRefs.cons ?_ (by intro _ _; kernel_rfl) ?_
    · refine QRef.tup ?_
      refine QRefs.cons ?_ (by intro _ _; kernel_rfl) ?_
      · exact QRef.int
      refine QRefs.cons ?_ (by intro _ _; kernel_rfl) ?_
      · exact QRef.int
      exact Refs.nil
    refine QRefs.cons ?_ (by intro _ _; kernel_rfl) ?_
    · refine QRef.tup ?_
      refine QRefs.cons ?_ (by intro _ _; kernel_rfl) ?_
      · exact QRef.int
      refine QRefs.cons ?_ (by intro _ _; kernel_rfl) ?_
      · exact QRef.int
      exact Refs.nil
    refine QRefs.cons ?_ (by intro _ _; kernel_rfl) ?_
    · refine QRef.tup ?_
      refine QRefs.cons ?_ (by intro _ _; kernel_rfl) ?_
      · exact QRef.int
      refine QRefs.cons ?_ (by intro _ _; kernel_rfl) ?_
      · exact QRef.int
      exact Refs.nil
    refine QRefs.cons ?_ (by intro _ _; kernel_rfl) ?_
    · refine QRef.tup ?_
      refine QRefs.cons ?_ (by intro _ _; kernel_rfl) ?_
      · exact QRef.int
      refine QRefs.cons ?_ (by intro _ _; kernel_rfl) ?_
      · exact QRef.int
      exact Refs.nil
    refine QRefs.cons ?_ (by intro _ _; kernel_rfl) ?_
    · refine QRef.tup ?_
      refine QRefs.cons ?_ (by intro _ _; kernel_rfl) ?_
      · exact QRef.int
      refine QRefs.cons ?_ (by intro _ _; kernel_rfl) ?_
      · exact QRef.int
      exact Refs.nil
    refine QRefs.cons ?_ (by intro _ _; kernel_rfl) ?_
    · refine QRef.tup ?_
      refine QRefs.cons ?_ (by intro _ _; kernel_rfl) ?_
      · exact QRef.int
      refine QRefs.cons ?_ (by intro _ _; kernel_rfl) ?_
      · exact QRef.int
      exact Refs.nil
    exact Refs.nil
  refine QRefS.cons ?_ ?_
  · refine QRef1.ret ?_
    refine QRef.comp (Γ' := ⟨_, [("k", 0), ("pair", 1), ("cell", 3)]⟩) (own := ["k", "pair"]) (g := (gElt (cVar 1))) ⟨rfl, rfl, (by decide +kernel), (by decide +kernel), (by decide +kernel), (by decide +kernel), (by decide +kernel), (by decide +kernel)⟩ rfl IsLoop.last1 ?_ (Tgt.many (NamesAt.cons (i := 0) (by decide +kernel) (by decide +kernel) (NamesAt.cons (i := 1) (by decide +kernel) (by decide +kernel) NamesAt.nil))) ?_ ?_
    · refine QRefIt.enum (bi_enumerate (by decide +kernel)) ?_
      exact QRef.var (i := 1) (by decide +kernel)
    · refine QRefI.one ?_
      refine QRefB.cmp op_eqI ?_ ?_
      · refine QRef.bin op_modI ?_ ?_
        · refine QRef.bin op_divI ?_ ?_
          · exact QRef.var (i := 3) (by decide +kernel)
          refine QRef.bin op_powI ?_ ?_
          · exact QRef.int
          exact QRef.var (i := 0) (by decide +kernel)
        exact QRef.int
      exact QRef.int
    refine QRefA.elt ?_
    exact QRef.var (i := 1) (by decide +kernel)
  exact QRefS.nil
theorem fnAt__law_names (lf : LawF W P) : ∃ fd, FnAt W 167 fd := by
  have hf : (kfrag.heap_1 P).lookup 167 = some ⟨.type "function", _, .func _, _⟩ := rfl
  exact ⟨_, ⟨_, lf.af.X _ _ hf, rfl⟩, codeRec_of lf.af.X (by first | rfl | kernel_rfl), rfl, rfl, rfl⟩
theorem ref__law_names (lf : LawF W P) : RefFn W 5 167 f__law_names := by
  have hf : (kfrag.heap_1 P).lookup 167 = some ⟨.type "function", _, .func _, _⟩ := rfl
  refine QRefFn.of (n := 4) (Γ := ⟨_, [("cell", 0), ("language", 1), ("encoding", 2), ("pairs", 3), ("names", 4)]⟩) (ns := ["cell", "language", "encoding", "pairs", "names"]) (ps := ["cell"]) (m := 4) ⟨⟨_, lf.af.X _ _ hf, rfl⟩, codeRec_of lf.af.X (by first | rfl | kernel_rfl), rfl, rfl, rfl⟩ rfl rfl
    ⟨by decide +kernel, by decide +kernel, by decide +kernel, by decide +kernel⟩ rfl rfl (fun vals hv => ?_)
    ?_ rfl rfl
  · match vals, hv with
    | [_], _ => rfl
  refine QRefS.cons ?_ ?_
  · refine QRef1.set (i := 1) ?_ (by decide +kernel) (hs := by intro _ _; kernel_rfl)
    refine QRef.item op_itemL ?_ ?_
    · refine QRef.list ?_ (hz := by decide +kernel)
      refine QRefs.cons ?_ (by intro _ _; kernel_rfl) ?_
      · exact QRef.str (t := [98, 101, 95, 66, 89])
      refine QRefs.cons ?_ (by intro _ _; kernel_rfl) ?_
      · exact QRef.str (t := [98, 32, 99])
      refine QRefs.cons ?_ (by intro _ _; kernel_rfl) ?_
      · exact QRef.str (t := [97, 46, 66])
      refine QRefs.cons ?_ (by intro _ _; kernel_rfl) ?_
      · exact QRef.str (t := [97, 90, 45, 122])
      exact Refs.nil
    refine QRef.bin op_modI ?_ ?_
    · refine QRef.bin op_divI ?_ ?_
      · exact QRef.var (i := 0) (by decide +kernel)
      exact QRef.int
    exact QRef.int
  refine QRefS.cons ?_ ?_
  · refine QRef1.set (i := 2) ?_ (by decide +kernel) (hs := by intro _ _; kernel_rfl)
    refine QRef.item op_itemL ?_ ?_
    · refine QRef.list ?_ (hz := by decide +kernel)
      refine QRefs.cons ?_ (by intro _ _; kernel_rfl) ?_
      · exact QRef.str (t := [117, 116, 102, 56])
      refine QRefs.cons ?_ (by intro _ _; kernel_rfl) ?_
      · exact QRef.str (t := [85, 116, 102, 45, 56])
      refine QRefs.cons ?_ (by intro _ _; kernel_rfl) ?_
      · exact QRef.str (t := [60])
      refine QRefs.cons ?_ (by intro _ _; kernel_rfl) ?_
      · exact QRef.str (t := [46, 67, 32])
      exact Refs.nil
    refine QRef.bin op_modI ?_ ?_
    · refine QRef.bin op_divI ?_ ?_
      · exact QRef.var (i := 0) (by decide +kernel)
      exact QRef.int
    exact QRef.int
  refine QRefS.cons ?_ ?_
  · refine QRef1.set (i := 3) ?_ (by decide +kernel) (hs := by intro _ _; kernel_rfl)
    refine QRef.list ?_ (hz := by decide +kernel)
    refine QRefs.cons ?_ (by intro _ _; kernel_rfl) ?_
    · refine QRef.tup ?_
      refine QRefs.cons ?_ (by intro _ _; kernel_rfl) ?_
      · exact QRef.str (t := [])
      refine QRefs.cons ?_ (by intro _ _; kernel_rfl) ?_
      · exact QRef.cnone
      exact Refs.nil
    refine QRefs.cons ?_ (by intro _ _; kernel_rfl) ?_
    · refine QRef.tup ?_
      refine QRefs.cons ?_ (by intro _ _; kernel_rfl) ?_
      · exact QRef.str (t := [32])
      refine QRefs.cons ?_ (by intro _ _; kernel_rfl) ?_
      · exact QRef.str (t := [])
      exact Refs.nil
    refine QRefs.cons ?_ (by intro _ _; kernel_rfl) ?_
    · refine QRef.tup ?_
      refine QRefs.cons ?_ (by intro _ _; kernel_rfl) ?_
      · exact QRef.cnone
      refine QRefs.cons ?_ (by intro _ _; kernel_rfl) ?_
      · exact QRef.cnone
      exact Refs.nil
    refine QRefs.cons ?_ (by intro _ _; kernel_rfl) ?_
    · refine QRef.tup ?_
      refine QRefs.cons ?_ (by intro _ _; kernel_rfl) ?_
      · exact QRef.cnone
      refine QRefs.cons ?_ (by intro _ _; kernel_rfl) ?_
      · exact QRef.var (i := 2) (by decide +kernel)
      exact Refs.nil
    refine QRefs.cons ?_ (by intro _ _; kernel_rfl) ?_
    · refine QRef.tup ?_
      refine QRefs.cons ?_ (by intro _ _; kernel_rfl) ?_
      · exact QRef.var (i := 1) (by decide +kernel)
      refine QRefs.cons ?_ (by intro _ _; kernel_rfl) ?_
      · exact QRef.cnone
      exact Refs.nil
    refine QRefs.cons ?_ (by intro _ _; kernel_rfl) ?_
    · refine QRef.tup ?_
      refine QRefs.cons ?_ (by intro _ _; kernel_rfl) ?_
      · exact QRef.var (i := 1) (by decide +kernel)
      refine QRefs.cons ?_ (by intro _ _; kernel_rfl) ?_
      · exact QRef.var (i := 2) (by decide +kernel)
      exact Refs.nil
    exact Refs.nil
  refine QRefS.cons ?_ ?_
  · refine QRef1.setComp (i := 4) (Γ' := ⟨_, [("pair", 0)]⟩) (own := ["pair"]) (g := (gElt (cCall f__build_localename [(cVar 0)]))) ⟨rfl, rfl, (by decide +kernel), (by decide +kernel), (by decide +kernel), (by decide +kernel), (by decide +kernel), (by decide +kernel)⟩ rfl IsLoop.last1 ?_ (Tgt.one (i := 0) (by decide +kernel) (by decide +kernel)) ?_ ?_ (by decide +kernel) (by decide +kernel) (by intro env he; unfold swapsWith Env.blockKind Env.kindOf; rw [he]; rfl)
    · refine QRefIt.list ?_
      exact QRef.var (i := 3) (by decide +kernel)
    · exact RefI.nil
    refine QRefA.elt ?_
    refine QRef.callE (F := f__build_localename) (by decide +kernel) (lf.mg "_build_localename" _ rfl) (fnAt__build_localename lf) (RefFn.lift (ref__build_localename lf) (by decide +kernel)) ?_
    refine QRefs.cons ?_ (by intro _ _; kernel_rfl) ?_
    · exact QRef.var (i := 0) (by decide +kernel)
    exact Refs.nil
  refine QRefS.cons ?_ ?_
  · refine QRef1.cond ?_ ?_ ?_
    · refine QRefB.or ?_ ?_
      · refine QRefB.cmp op_neD ?_ ?_
        · exact QRef.var (i := 4) (by decide +kernel)
        refine QRef.list ?_ (hz := by decide +kernel)
        refine QRefs.cons ?_ (by intro _ _; kernel_rfl) ?_
        · exact QRef.str (t := [])
        refine QRefs.cons ?_ (by intro _ _; kernel_rfl) ?_
        · exact QRef.str (t := [32, 46])
        refine QRefs.cons ?_ (by intro _ _; kernel_rfl) ?_
        · exact QRef.str (t := [67])
        refine QRefs.cons ?_ (by intro _ _; kernel_rfl) ?_
        · refine QRef.bin op_addS ?_ ?_
          · exact QRef.str (t := [67, 46])
          exact QRef.var (i := 2) (by decide +kernel)
        refine QRefs.cons ?_ (by intro _ _; kernel_rfl) ?_
        · exact QRef.var (i := 1) (by decide +kernel)
        refine QRefs.cons ?_ (by intro _ _; kernel_rfl) ?_
        · refine QRef.bin op_addS ?_ ?_
          · refine QRef.bin op_addS ?_ ?_
            · exact QRef.var (i := 1) (by decide +kernel)
            exact QRef.str (t := [46])
          exact QRef.var (i := 2) (by decide +kernel)
        exact Refs.nil
      refine QRefB.cmp op_neD ?_ ?_
      · refine QRef.sorted (bi_sorted (by decide +kernel)) (by decide +kernel) (lf.mg "_strxfrm" _ rfl) (RefFn.lift (ref__strxfrm lf) (by decide +kernel)) id_strxfrm ?_
        refine QRef.revL ?_
        exact QRef.var (i := 4) (by decide +kernel)
      exact QRef.var (i := 4) (by decide +kernel)
    · refine QRefS.cons ?_ ?_
      · refine QRef1.ret ?_
        refine QRef.list ?_ (hz := by decide +kernel)
        exact Refs.nil
      exact QRefS.nil
    exact QRefS.nil
  refine QRefS.cons ?_ ?_
  · refine QRef1.expr ?_
    refine QRef.meth meth_pop tells_list op_popAt ?_ ?_
    · exact QRef.var (i := 4) (by decide +kernel)
    refine QRef.bin op_modI ?_ ?_
    · exact QRef.var (i := 0) (by decide +kernel)
    exact QRef.int
  refine QRefS.cons ?_ ?_
  · refine QRef1.expr ?_
    refine QRef.meth meth_pop tells_list op_popAt ?_ ?_
    · exact QRef.var (i := 4) (by decide +kernel)
    refine QRef.bin op_modI ?_ ?_
    · refine QRef.bin op_divI ?_ ?_
      · exact QRef.var (i := 0) (by decide +kernel)
      exact QRef.int
    exact QRef.int
  refine QRefS.cons ?_ ?_
  · refine QRef1.ret ?_
    exact QRef.var (i := 4) (by decide +kernel)
  exact QRefS.nil
end
end Mine
namespace Mine
open PySem PySem.W PyProof.Rows
section
variable {W : Wd} {P : Params}
theorem fnAt__law_side (lf : LawF W P) : ∃ fd, FnAt W 174 fd := by
  have hf : (kfrag.heap_1 P).lookup 174 = some ⟨.type "function", _, .func _, _⟩ := rfl
  exact ⟨_, ⟨_, lf.af.X _ _ hf, rfl⟩, codeRec_of lf.af.X (by first | rfl | kernel_rfl), rfl, rfl, rfl⟩
theorem ref__law_side (lf : LawF W P) : RefFn W 3 174 f__law_side := by
  have hf : (kfrag.heap_1 P).lookup 174 = some ⟨.type "function", _, .func _, _⟩ := rfl
  refine QRefFn.of (n := 2) (Γ := ⟨_, [("more", 0)]⟩) (ns := ["more"]) (ps := ["more"]) (m := 0) ⟨⟨_, lf.af.X _ _ hf, rfl⟩, codeRec_of lf.af.X (by first | rfl | kernel_rfl), rfl, rfl, rfl⟩ rfl rfl
    ⟨by decide +kernel, by decide +kernel, by decide +kernel, by decide +kernel⟩ rfl rfl (fun vals hv => ?_)
    ?_ rfl rfl
  · match vals, hv with
    | [_], _ => rfl
  refine QRefS.cons ?_ ?_
  · refine QRef1.cond ?_ ?_ ?_
    · refine QRefB.or ?_ ?_
      · refine QRefB.cmp op_isNot ?_ ?_
        · refine QRef.callE (F := f_ISTERMINAL) (by decide +kernel) (lf.mg "ISTERMINAL" _ rfl) (fnAt_ISTERMINAL lf) (RefFn.lift (ref_ISTERMINAL lf) (by decide +kernel)) ?_
          refine QRefs.cons ?_ (by intro _ _; kernel_rfl) ?_
          · refine QRef.bin op_addI ?_ ?_
            · exact QRef.int
            exact QRef.var (i := 0) (by decide +kernel)
          exact Refs.nil
        refine QRef.cmp op_leI ?_ ?_
        · exact QRef.var (i := 0) (by decide +kernel)
        exact QRef.int
      refine QRefB.cmp op_isNot ?_ ?_
      · refine QRef.callE (F := f_ISTERMINAL) (by decide +kernel) (lf.mg "ISTERMINAL" _ rfl) (fnAt_ISTERMINAL lf) (RefFn.lift (ref_ISTERMINAL lf) (by decide +kernel)) ?_
        refine QRefs.cons ?_ (by intro _ _; kernel_rfl) ?_
        · refine QRef.bin op_addI ?_ ?_
          · exact QRef.int
          exact QRef.var (i := 0) (by decide +kernel)
        exact Refs.nil
      refine QRef.cmp op_ltI ?_ ?_
      · exact QRef.var (i := 0) (by decide +kernel)
      exact QRef.int
    · refine QRefS.cons ?_ ?_
      · refine QRef1.ret ?_
        exact QRef.str (t := [])
      exact QRefS.nil
    exact QRefS.nil
  refine QRefS.cons ?_ ?_
  · refine QRef1.cond ?_ ?_ ?_
    · refine QRefB.or ?_ ?_
      · refine QRefB.cmp op_isNot ?_ ?_
        · refine QRef.callE (F := f_ISNONTERMINAL) (by decide +kernel) (lf.mg "ISNONTERMINAL" _ rfl) (fnAt_ISNONTERMINAL lf) (RefFn.lift (ref_ISNONTERMINAL lf) (by decide +kernel)) ?_
          refine QRefs.cons ?_ (by intro _ _; kernel_rfl) ?_
          · refine QRef.bin op_addI ?_ ?_
            · exact QRef.int
            exact QRef.var (i := 0) (by decide +kernel)
          exact Refs.nil
        refine QRef.cmp op_gtI ?_ ?_
        · exact QRef.var (i := 0) (by decide +kernel)
        exact QRef.int
      refine QRefB.cmp op_isNot ?_ ?_
      · refine QRef.callE (F := f_ISNONTERMINAL) (by decide +kernel) (lf.mg "ISNONTERMINAL" _ rfl) (fnAt_ISNONTERMINAL lf) (RefFn.lift (ref_ISNONTERMINAL lf) (by decide +kernel)) ?_
        refine QRefs.cons ?_ (by intro _ _; kernel_rfl) ?_
        · refine QRef.bin op_addI ?_ ?_
          · exact QRef.int
          exact QRef.var (i := 0) (by decide +kernel)
        exact Refs.nil
      refine QRef.cmp op_geI ?_ ?_
      · exact QRef.var (i := 0) (by decide +kernel)
      exact QRef.int
    · refine QRefS.cons ?_ ?_
      · refine QRef1.ret ?_
        exact QRef.str (t := [])
      exact QRefS.nil
    exact QRefS.nil
  refine QRefS.cons ?_ ?_
  · refine QRef1.cond ?_ ?_ ?_
    · refine QRefB.cmp op_isNot ?_ ?_
      · refine QRef.callE (F := f_ISEOF) (by decide +kernel) (lf.mg "ISEOF" _ rfl) (fnAt_ISEOF lf) (RefFn.lift (ref_ISEOF lf) (by decide +kernel)) ?_
        refine QRefs.cons ?_ (by intro _ _; kernel_rfl) ?_
        · exact QRef.var (i := 0) (by decide +kernel)
        exact Refs.nil
      refine QRef.cmp op_eqI ?_ ?_
      · exact QRef.var (i := 0) (by decide +kernel)
      exact QRef.int
    · refine QRefS.cons ?_ ?_
      · refine QRef1.ret ?_
        exact QRef.str (t := [])
      exact QRefS.nil
    exact QRefS.nil
  refine QRefS.cons ?_ ?_
  · refine QRef1.ret ?_
    refine QRef.ifexp ?_ ?_ ?_
    · refine QRefB.cmp op_ltI ?_ ?_
      · exact QRef.var (i := 0) (by decide +kernel)
      exact QRef.int
    · exact QRef.str (t := [60])
    refine QRef.ifexp ?_ ?_ ?_
    · refine QRefB.cmp op_gtI ?_ ?_
      · exact QRef.var (i := 0) (by decide +kernel)
      exact QRef.int
    · exact QRef.str (t := [62])
    exact QRef.str (t := [61])
  exact QRefS.nil
theorem fnAt__law_sign (lf : LawF W P) : ∃ fd, FnAt W 181 fd := by
  have hf : (kfrag.heap_1 P).lookup 181 = some ⟨.type "function", _, .func _, _⟩ := rfl
  exact ⟨_, ⟨_, lf.af.X _ _ hf, rfl⟩, codeRec_of lf.af.X (by first | rfl | kernel_rfl), rfl, rfl, rfl⟩
theorem ref__law_sign (lf : LawF W P) : RefFn W 4 181 f__law_sign := by
  have hf : (kfrag.heap_1 P).lookup 181 = some ⟨.type "function", _, .func _, _⟩ := rfl
  refine QRefFn.of (n := 3) (Γ := ⟨_, [("one", 0), ("other", 1), ("answer", 2)]⟩) (ns := ["one", "other", "answer"]) (ps := ["one", "other"]) (m := 1) ⟨⟨_, lf.af.X _ _ hf, rfl⟩, codeRec_of lf.af.X (by first | rfl | kernel_rfl), rfl, rfl, rfl⟩ rfl rfl
    ⟨by decide +kernel, by decide +kernel, by decide +kernel, by decide +kernel⟩ rfl rfl (fun vals hv => ?_)
    ?_ rfl rfl
  · match vals, hv with
    | [_, _], _ => rfl
  refine QRefS.cons ?_ ?_
  · refine QRef1.set (i := 2) ?_ (by decide +kernel) (hs := by intro _ _; kernel_rfl)
    refine QRef.callE (F := f__strcoll) (by decide +kernel) (lf.mg "_strcoll" _ rfl) (fnAt__strcoll lf) (RefFn.lift (ref__strcoll lf) (by decide +kernel)) ?_
    refine QRefs.cons ?_ (by intro _ _; kernel_rfl) ?_
    · exact QRef.var (i := 0) (by decide +kernel)
    refine QRefs.cons ?_ (by intro _ _; kernel_rfl) ?_
    · exact QRef.var (i := 1) (by decide +kernel)
    exact Refs.nil
  refine QRefS.cons ?_ ?_
  · refine QRef1.ret ?_
    refine QRef.ifexp ?_ ?_ ?_
    · refine QRefB.and ?_ ?_
      · refine QRefB.cmp op_inL ?_ ?_
        · exact QRef.var (i := 2) (by decide +kernel)
        refine QRef.list ?_ (hz := by decide +kernel)
        refine QRefs.cons ?_ (by intro _ _; kernel_rfl) ?_
        · exact QRef.neg (j := -1)
        refine QRefs.cons ?_ (by intro _ _; kernel_rfl) ?_
        · exact QRef.int
        refine QRefs.cons ?_ (by intro _ _; kernel_rfl) ?_
        · exact QRef.int
        exact Refs.nil
      refine QRefB.not ?_
      refine QRefB.val ?_
      refine QRef.isBool (bi_isinstance (by decide +kernel)) (bi_bool (by decide +kernel)) ?_
      exact QRef.var (i := 2) (by decide +kernel)
    · refine QRef.callE (F := f__law_side) (by decide +kernel) (lf.mg "_law_side" _ rfl) (fnAt__law_side lf) (RefFn.lift (ref__law_side lf) (by decide +kernel)) ?_
      refine QRefs.cons ?_ (by intro _ _; kernel_rfl) ?_
      · exact QRef.var (i := 2) (by decide +kernel)
      exact Refs.nil
    exact QRef.str (t := [])
  exact QRefS.nil
theorem fnAt__law_orders (lf : LawF W P) : ∃ fd, FnAt W 186 fd := by
  have hf : (kfrag.heap_1 P).lookup 186 = some ⟨.type "function", _, .func _, _⟩ := rfl
  exact ⟨_, ⟨_, lf.af.X _ _ hf, rfl⟩, codeRec_of lf.af.X (by first | rfl | kernel_rfl), rfl, rfl, rfl⟩
theorem ref__law_orders (lf : LawF W P) : RefFn W 2 186 f__law_orders := by
  have hf : (kfrag.heap_1 P).lookup 186 = some ⟨.type "function", _, .func _, _⟩ := rfl
  refine QRefFn.of (n := 1) (Γ := ⟨_, [("orders", 0), ("rank", 1)]⟩) (ns := ["orders", "rank"]) (ps := []) (m := 2) ⟨⟨_, lf.af.X _ _ hf, rfl⟩, codeRec_of lf.af.X (by first | rfl | kernel_rfl), rfl, rfl, rfl⟩ rfl rfl
    ⟨by decide +kernel, by decide +kernel, by decide +kernel, by decide +kernel⟩ rfl rfl (fun vals hv => ?_)
    ?_ rfl rfl
  · match vals, hv with
    | [], _ => rfl
  refine QRefS.cons ?_ ?_
  · refine QRef1.set (i := 0) ?_ (by decide +kernel) (hs := by intro _ _; kernel_rfl)
    refine QRef.list ?_ (hz := by decide +kernel)
    refine QRefs.cons ?_ (by intro _ _; kernel_rfl) ?_
    · refine QRef.list ?_ (hz := by decide +kernel)
      exact Refs.nil
    exact Refs.nil
  refine QRefS.cons ?_ ?_
  · refine QRef1.for ?_ (Tgt.one (i := 1) (by decide +kernel) (by decide +kernel)) ?_
    · refine QRefIt.range (bi_range (by decide +kernel)) ?_
      exact QRef.int
    refine QRefS.cons ?_ ?_
    · refine QRef1.setComp (i := 0) (Γ' := ⟨_, [("order", 0), ("k", 1), ("rank", 4)]⟩) (own := ["order", "k"]) (g := (gFor [1] (iRange (cOp2 oAddI (cVar 4) (cVal (.int 1)))) (gElt (cOp2 oAddL (cOp2 oAddL (cOp2 oToL (cVar 0) (cVar 1)) (cList [(cVar 4)])) (cOp2 oFromL (cVar 0) (cVar 1)))))) ⟨rfl, rfl, (by decide +kernel), (by decide +kernel), (by decide +kernel), (by decide +kernel), (by decide +kernel), (by decide +kernel)⟩ rfl IsLoop.first2 ?_ (Tgt.one (i := 0) (by decide +kernel) (by decide +kernel)) ?_ ?_ (by decide +kernel) (by decide +kernel) (by intro env he; unfold swapsWith Env.blockKind Env.kindOf; rw [he]; rfl)
      · refine QRefIt.list ?_
        exact QRef.var (i := 0) (by decide +kernel)
      · exact RefI.nil
      refine QRefA.for (F := (cOp2 oAddL (cOp2 oAddL (cOp2 oToL (cVar 0) (cVar 1)) (cList [(cVar 4)])) (cOp2 oFromL (cVar 0) (cVar 1)))) ?_ (Tgt.one (i := 1) (by decide +kernel) (by decide +kernel)) ?_ ?_
      · refine QRefIt.range (bi_range (by decide +kernel)) ?_
        refine QRef.bin op_addI ?_ ?_
        · exact QRef.var (i := 4) (by decide +kernel)
        exact QRef.int
      · refine QRef.bin op_addL ?_ ?_
        · refine QRef.bin op_addL ?_ ?_
          · refine QRef.toL ?_ ?_
            · exact QRef.var (i := 0) (by decide +kernel)
            exact QRef.var (i := 1) (by decide +kernel)
          refine QRef.list ?_ (hz := by decide +kernel)
          refine QRefs.cons ?_ (by intro _ _; kernel_rfl) ?_
          · exact QRef.var (i := 4) (by decide +kernel)
          exact Refs.nil
        refine QRef.fromL ?_ ?_
        · exact QRef.var (i := 0) (by decide +kernel)
        exact QRef.var (i := 1) (by decide +kernel)
      exact RefI.nil
    exact QRefS.nil
  refine QRefS.cons ?_ ?_
  · refine QRef1.ret ?_
    exact QRef.var (i := 0) (by decide +kernel)
  exact QRefS.nil
end
end Mine
namespace Mine
open PySem PySem.W PyProof.Rows
section
variable {W : Wd} {P : Params}
theorem fnAt__law_lesser (lf : LawF W P) : ∃ fd, FnAt W 193 fd := by
  have hf : (kfrag.heap_1 P).lookup 193 = some ⟨.type "function", _, .func _, _⟩ := rfl
  exact ⟨_, ⟨_, lf.af.X _ _ hf, rfl⟩, codeRec_of lf.af.X (by first | rfl | kernel_rfl), rfl, rfl, rfl⟩
theorem ref__law_lesser (lf : LawF W P) : RefFn W 2 193 f__law_lesser := by
  have hf : (kfrag.heap_1 P).lookup 193 = some ⟨.type "function", _, .func _, _⟩ := rfl
  refine QRefFn.of (n := 1) (Γ := ⟨_, [("page", 0), ("counts", 1), ("count", 2), ("place", 3), ("size", 4), ("number", 5)]⟩) (ns := ["page", "counts", "count", "place", "size", "number"]) (ps := ["page"]) (m := 5) ⟨⟨_, lf.af.X _ _ hf, rfl⟩, codeRec_of lf.af.X (by first | rfl | kernel_rfl), rfl, rfl, rfl⟩ rfl rfl
    ⟨by decide +kernel, by decide +kernel, by decide +kernel, by decide +kernel⟩ rfl rfl (fun vals hv => ?_)
    ?_ rfl rfl
  · match vals, hv with
    | [_], _ => rfl
  refine QRefS.cons ?_ ?_
  · refine QRef1.setsR (is := [3, 2, 1]) (names := ["counts", "count", "place"]) ?_ rfl (by intro i x j h1 h2; match i, h1, h2 with | 0, h1, h2 => (cases h1; cases h2; exact ⟨by decide +kernel, by decide +kernel⟩) | 1, h1, h2 => (cases h1; cases h2; exact ⟨by decide +kernel, by decide +kernel⟩) | 2, h1, h2 => (cases h1; cases h2; exact ⟨by decide +kernel, by decide +kernel⟩) | (k + 3), h1, _ => simp at h1) (hz := by decide +kernel) (hz' := by decide +kernel) (hw := (by intro env he; unfold swappedStores Env.blockKind Env.kindOf; rw [he]; rfl))
    refine QRefs.cons ?_ (by intro _ _; kernel_rfl) ?_
    · refine QRef.list ?_ (hz := by decide +kernel)
      exact Refs.nil
    refine QRefs.cons ?_ (by intro _ _; kernel_rfl) ?_
    · exact QRef.int
    refine QRefs.cons ?_ (by intro _ _; kernel_rfl) ?_
    · exact QRef.int
    exact Refs.nil
  refine QRefS.cons ?_ ?_
  · refine QRef1.while ?_ ?_
    · refine QRefB.cmp op_ltI ?_ ?_
      · exact QRef.var (i := 3) (by decide +kernel)
      refine QRef.bi1 (bi_len (by decide +kernel)) op_lenS ?_
      exact QRef.var (i := 0) (by decide +kernel)
    refine QRefS.cons ?_ ?_
    · refine QRef1.set (i := 4) ?_ (by decide +kernel) (hs := by intro _ _; kernel_rfl)
      refine QRef.ifexp ?_ ?_ ?_
      · refine QRefB.inG lf.tok (by decide +kernel) ?_
        refine QRef.cutS ?_ ?_ ?_
        · exact QRef.var (i := 0) (by decide +kernel)
        · exact QRef.var (i := 3) (by decide +kernel)
        refine QRef.bin op_addI ?_ ?_
        · exact QRef.var (i := 3) (by decide +kernel)
        exact QRef.int
      · exact QRef.int
      exact QRef.int
    refine QRefS.cons ?_ ?_
    · refine QRef1.set (i := 5) ?_ (by decide +kernel) (hs := by intro _ _; kernel_rfl)
      refine QRef.getG lf.tok (by decide +kernel) ?_
      refine QRef.cutS ?_ ?_ ?_
      · exact QRef.var (i := 0) (by decide +kernel)
      · exact QRef.var (i := 3) (by decide +kernel)
      refine QRef.bin op_addI ?_ ?_
      · exact QRef.var (i := 3) (by decide +kernel)
      exact QRef.var (i := 4) (by decide +kernel)
    refine QRefS.cons ?_ ?_
    · refine QRef1.aug (i := 3) op_iaddI ?_ (by decide +kernel)
      exact QRef.var (i := 4) (by decide +kernel)
    refine QRefS.cons ?_ ?_
    · refine QRef1.cond ?_ ?_ ?_
      · refine QRefB.cmp op_eqI ?_ ?_
        · exact QRef.var (i := 5) (by decide +kernel)
        exact QRef.int
      · refine QRefS.cons ?_ ?_
        · refine QRef1.expr ?_
          refine QRef.meth meth_append tells_list op_append ?_ ?_
          · exact QRef.var (i := 1) (by decide +kernel)
          exact QRef.var (i := 2) (by decide +kernel)
        refine QRefS.cons ?_ ?_
        · refine QRef1.set (i := 2) ?_ (by decide +kernel) (hs := by intro _ _; kernel_rfl)
          exact QRef.int
        exact QRefS.nil
      refine QRefS.cons ?_ ?_
      · refine QRef1.cond ?_ ?_ ?_
        · refine QRefB.or ?_ ?_
          · refine QRefB.cmp op_eqI ?_ ?_
            · exact QRef.var (i := 5) (by decide +kernel)
            exact QRef.int
          refine QRefB.cmp op_eqI ?_ ?_
          · exact QRef.var (i := 5) (by decide +kernel)
          exact QRef.int
        · refine QRefS.cons ?_ ?_
          · refine QRef1.aug (i := 2) op_iaddI ?_ (by decide +kernel)
            refine QRef.ifexp ?_ ?_ ?_
            · refine QRefB.cmp op_eqI ?_ ?_
              · exact QRef.var (i := 5) (by decide +kernel)
              exact QRef.int
            · exact QRef.int
            exact QRef.int
          exact QRefS.nil
        refine QRefS.cons ?_ ?_
        · refine QRef1.cond ?_ ?_ ?_
          · refine QRefB.and ?_ ?_
            · refine QRefB.cmp op_neI ?_ ?_
              · exact QRef.var (i := 5) (by decide +kernel)
              exact QRef.int
            refine QRefB.cmp op_neI ?_ ?_
            · exact QRef.var (i := 5) (by decide +kernel)
            exact QRef.int
          · refine QRefS.cons ?_ ?_
            · refine QRef1.ret ?_
              refine QRef.list ?_ (hz := by decide +kernel)
              exact Refs.nil
            exact QRefS.nil
          exact QRefS.nil
        exact QRefS.nil
      exact QRefS.nil
    exact QRefS.nil
  refine QRefS.cons ?_ ?_
  · refine QRef1.ret ?_
    exact QRef.var (i := 1) (by decide +kernel)
  exact QRefS.nil
theorem fnAt__law_counts (lf : LawF W P) : ∃ fd, FnAt W 200 fd := by
  have hf : (kfrag.heap_1 P).lookup 200 = some ⟨.type "function", _, .func _, _⟩ := rfl
  exact ⟨_, ⟨_, lf.af.X _ _ hf, rfl⟩, codeRec_of lf.af.X (by first | rfl | kernel_rfl), rfl, rfl, rfl⟩
theorem ref__law_counts (lf : LawF W P) : RefFn W 3 200 f__law_counts := by
  have hf : (kfrag.heap_1 P).lookup 200 = some ⟨.type "function", _, .func _, _⟩ := rfl
  refine QRefFn.of (n := 2) (Γ := ⟨_, [("pages", 0), ("counts", 1), ("page", 2)]⟩) (ns := ["pages", "counts", "page"]) (ps := ["pages"]) (m := 2) ⟨⟨_, lf.af.X _ _ hf, rfl⟩, codeRec_of lf.af.X (by first | rfl | kernel_rfl), rfl, rfl, rfl⟩ rfl rfl
    ⟨by decide +kernel, by decide +kernel, by decide +kernel, by decide +kernel⟩ rfl rfl (fun vals hv => ?_)
    ?_ rfl rfl
  · match vals, hv with
    | [_], _ => rfl
  refine QRefS.cons ?_ ?_
  · refine QRef1.set (i := 1) ?_ (by decide +kernel) (hs := by intro _ _; kernel_rfl)
    exact QRef.dict
  refine QRefS.cons ?_ ?_
  · refine QRef1.for ?_ (Tgt.one (i := 2) (by decide +kernel) (by decide +kernel)) ?_
    · refine QRefIt.list ?_
      exact QRef.var (i := 0) (by decide +kernel)
    refine QRefS.cons ?_ ?_
    · refine QRef1.cond ?_ ?_ ?_
      · refine QRefB.cmp op_notInD ?_ ?_
        · exact QRef.var (i := 2) (by decide +kernel)
        exact QRef.var (i := 1) (by decide +kernel)
      · refine QRefS.cons ?_ ?_
        · refine QRef1.setD ?_ ?_ ?_
          · refine QRef.callE (F := f__law_lesser) (by decide +kernel) (lf.mg "_law_lesser" _ rfl) (fnAt__law_lesser lf) (RefFn.lift (ref__law_lesser lf) (by decide +kernel)) ?_
            refine QRefs.cons ?_ (by intro _ _; kernel_rfl) ?_
            · exact QRef.var (i := 2) (by decide +kernel)
            exact Refs.nil
          · exact QRef.var (i := 1) (by decide +kernel)
          exact QRef.var (i := 2) (by decide +kernel)
        exact QRefS.nil
      exact QRefS.nil
    exact QRefS.nil
  refine QRefS.cons ?_ ?_
  · refine QRef1.ret ?_
    exact QRef.var (i := 1) (by decide +kernel)
  exact QRefS.nil
end
end Mine
namespace Mine
open PySem PySem.W PyProof.Rows
section
variable {W : Wd} {P : Params}
theorem fnAt__law_apart (lf : LawF W P) : ∃ fd, FnAt W 205 fd := by
  have hf : (kfrag.heap_1 P).lookup 205 = some ⟨.type "function", _, .func _, _⟩ := rfl
  exact ⟨_, ⟨_, lf.af.X _ _ hf, rfl⟩, codeRec_of lf.af.X (by first | rfl | kernel_rfl), rfl, rfl, rfl⟩
theorem ref__law_apart (lf : LawF W P) : RefFn W 6 205 f__law_apart := by
  have hf : (kfrag.heap_1 P).lookup 205 = some ⟨.type "function", _, .func _, _⟩ := rfl
  refine QRefFn.of (n := 5) (Γ := ⟨_, [("ties", 0), ("first", 1), ("pile", 2), ("net", 3), ("ends", 4), ("last", 5), ("size", 6), ("turn", 7), ("melted", 8), ("words", 9), ("moved", 10), ("word", 11), ("white", 12)]⟩) (ns := ["ties", "first", "pile", "net", "ends", "last", "size", "turn", "melted", "words", "moved", "word", "white"]) (ps := ["ties", "first"]) (m := 11) ⟨⟨_, lf.af.X _ _ hf, rfl⟩, codeRec_of lf.af.X (by first | rfl | kernel_rfl), rfl, rfl, rfl⟩ rfl rfl
    ⟨by decide +kernel, by decide +kernel, by decide +kernel, by decide +kernel⟩ rfl rfl (fun vals hv => ?_)
    ?_ rfl rfl
  · match vals, hv with
    | [_, _], _ => rfl
  refine QRefS.cons ?_ ?_
  · refine QRef1.setsR (is := [3, 2]) (names := ["pile", "net"]) ?_ rfl (by intro i x j h1 h2; match i, h1, h2 with | 0, h1, h2 => (cases h1; cases h2; exact ⟨by decide +kernel, by decide +kernel⟩) | 1, h1, h2 => (cases h1; cases h2; exact ⟨by decide +kernel, by decide +kernel⟩) | (k + 2), h1, _ => simp at h1) (hz := by decide +kernel) (hz' := by decide +kernel) (hw := (by intro env he; unfold swappedStores Env.blockKind Env.kindOf; rw [he]; rfl))
    refine QRefs.cons ?_ (by intro _ _; kernel_rfl) ?_
    · refine QRef.newAcc lf.af (by decide +kernel) (lf.mg "_Accumulator" _ rfl) ?_
      exact QRef.var (i := 1) (by decide +kernel)
    refine QRefs.cons ?_ (by intro _ _; kernel_rfl) ?_
    · refine QRef.meth meth_join tells_str op_join ?_ ?_
      · exact QRef.str (t := [32])
      refine QRef.comp (Γ' := ⟨_, [("one", 0), ("other", 1)]⟩) (own := ["one", "other"]) (g := (gElt (cOp2 oAddS (cOp2 oItemS (cVal (.str [97, 98, 99, 100])) (cVar 0)) (cOp2 oItemS (cVal (.str [97, 98, 99, 100])) (cVar 1))))) ⟨rfl, rfl, (by decide +kernel), (by decide +kernel), (by decide +kernel), (by decide +kernel), (by decide +kernel), (by decide +kernel)⟩ rfl IsLoop.last1 ?_ (Tgt.many (NamesAt.cons (i := 0) (by decide +kernel) (by decide +kernel) (NamesAt.cons (i := 1) (by decide +kernel) (by decide +kernel) NamesAt.nil))) ?_ ?_
      · refine QRefIt.listT (m := 2) ?_
        exact QRef.var (i := 0) (by decide +kernel)
      · exact RefI.nil
      refine QRefA.elt ?_
      refine QRef.bin op_addS ?_ ?_
      · refine QRef.item op_itemS ?_ ?_
        · exact QRef.str (t := [97, 98, 99, 100])
        exact QRef.var (i := 0) (by decide +kernel)
      refine QRef.item op_itemS ?_ ?_
      · exact QRef.str (t := [97, 98, 99, 100])
      exact QRef.var (i := 1) (by decide +kernel)
    exact Refs.nil
  refine QRefS.cons ?_ ?_
  · refine QRef1.setsR (is := [6, 5, 4]) (names := ["ends", "last", "size"]) ?_ rfl (by intro i x j h1 h2; match i, h1, h2 with | 0, h1, h2 => (cases h1; cases h2; exact ⟨by decide +kernel, by decide +kernel⟩) | 1, h1, h2 => (cases h1; cases h2; exact ⟨by decide +kernel, by decide +kernel⟩) | 2, h1, h2 => (cases h1; cases h2; exact ⟨by decide +kernel, by decide +kernel⟩) | (k + 3), h1, _ => simp at h1) (hz := by decide +kernel) (hz' := by decide +kernel) (hw := (by intro env he; unfold swappedStores Env.blockKind Env.kindOf; rw [he]; rfl))
    refine QRefs.cons ?_ (by intro _ _; kernel_rfl) ?_
    · refine QRef.list ?_ (hz := by decide +kernel)
      refine QRefs.cons ?_ (by intro _ _; kernel_rfl) ?_
      · exact QRef.int
      refine QRefs.cons ?_ (by intro _ _; kernel_rfl) ?_
      · exact QRef.int
      refine QRefs.cons ?_ (by intro _ _; kernel_rfl) ?_
      · exact QRef.int
      refine QRefs.cons ?_ (by intro _ _; kernel_rfl) ?_
      · exact QRef.int
      refine QRefs.cons ?_ (by intro _ _; kernel_rfl) ?_
      · exact QRef.int
      exact Refs.nil
    refine QRefs.cons ?_ (by intro _ _; kernel_rfl) ?_
    · refine QRef.list ?_ (hz := by decide +kernel)
      exact Refs.nil
    refine QRefs.cons ?_ (by intro _ _; kernel_rfl) ?_
    · refine QRef.bin op_addI ?_ ?_
      · exact QRef.var (i := 1) (by decide +kernel)
      refine QRef.bi1 (bi_len (by decide +kernel)) op_lenS ?_
      exact QRef.var (i := 3) (by decide +kernel)
    exact Refs.nil
  refine QRefS.cons ?_ ?_
  · refine QRef1.cond ?_ ?_ ?_
    · refine QRefB.cmp op_isNot ?_ ?_
      · refine QRef.accMeth lf.af (name := "push") (fv := 69) (fd := _) (by kernel_rfl) rfl (by decide +kernel) (call_push (n := 2) lf.af) ?_ ?_
        · exact QRef.var (i := 2) (by decide +kernel)
        refine QRefs.cons ?_ (by intro _ _; kernel_rfl) ?_
        · exact QRef.str (t := [])
        refine QRefs.cons ?_ (by intro _ _; kernel_rfl) ?_
        · exact QRef.var (i := 3) (by decide +kernel)
        exact Refs.nil
      exact QRef.cnone
    · refine QRefS.cons ?_ ?_
      · refine QRef1.ret ?_
        refine QRef.list ?_ (hz := by decide +kernel)
        exact Refs.nil
      exact QRefS.nil
    exact QRefS.nil
  refine QRefS.cons ?_ ?_
  · refine QRef1.for ?_ (Tgt.one (i := 7) (by decide +kernel) (by decide +kernel)) ?_
    · refine QRefIt.range (bi_range (by decide +kernel)) ?_
      exact QRef.int
    refine QRefS.cons ?_ ?_
    · refine QRef1.cond ?_ ?_ ?_
      · refine QRefB.cmp op_neI ?_ ?_
        · refine QRef.bi1 (bi_len (by decide +kernel)) (op_lenP lf.af lf.bu) ?_
          exact QRef.var (i := 2) (by decide +kernel)
        exact QRef.var (i := 6) (by decide +kernel)
      · refine QRefS.cons ?_ ?_
        · refine QRef1.ret ?_
          refine QRef.list ?_ (hz := by decide +kernel)
          exact Refs.nil
        exact QRefS.nil
      exact QRefS.nil
    refine QRefS.cons ?_ ?_
    · refine QRef1.cond ?_ ?_ ?_
      · refine QRefB.cmp op_eqI ?_ ?_
        · refine QRef.accMeth lf.af (name := "part_count") (fv := 122) (fd := _) (by kernel_rfl) rfl (by decide +kernel) (call_part (n := 3) lf.af) ?_ ?_
          · exact QRef.var (i := 2) (by decide +kernel)
          exact Refs.nil
        exact QRef.int
      · refine QRefS.cons ?_ ?_
        · exact QRef1.brk
        exact QRefS.nil
      exact QRefS.nil
    refine QRefS.cons ?_ ?_
    · refine QRef1.set (i := 5) ?_ (by decide +kernel) (hs := by intro _ _; kernel_rfl)
      refine QRef.ifexp ?_ ?_ ?_
      · refine QRefB.cmp op_eqI ?_ ?_
        · refine QRef.bin op_modI ?_ ?_
          · exact QRef.var (i := 7) (by decide +kernel)
          exact QRef.int
        exact QRef.int
      · refine QRef.list ?_ (hz := by decide +kernel)
        refine QRefs.cons ?_ (by intro _ _; kernel_rfl) ?_
        · refine QRef.accMeth lf.af (name := "pop") (fv := 85) (fd := _) (by kernel_rfl) rfl (by decide +kernel) (call_pop (n := 1) lf.af) ?_ ?_
          · exact QRef.var (i := 2) (by decide +kernel)
          exact Refs.nil
        exact Refs.nil
      refine QRef.accMeth lf.af (name := "pop_from") (fv := 77) (fd := _) (by kernel_rfl) rfl (by decide +kernel) (call_popFrom (n := 2) lf.af) ?_ ?_
      · exact QRef.var (i := 2) (by decide +kernel)
      refine QRefs.cons ?_ (by intro _ _; kernel_rfl) ?_
      · refine QRef.bin op_subI ?_ ?_
        · refine QRef.accMeth lf.af (name := "part_count") (fv := 122) (fd := _) (by kernel_rfl) rfl (by decide +kernel) (call_part (n := 3) lf.af) ?_ ?_
          · exact QRef.var (i := 2) (by decide +kernel)
          exact Refs.nil
        exact QRef.int
      exact Refs.nil
    refine QRefS.cons ?_ ?_
    · refine QRef1.unpack (is := [8, 3]) ?_ (NamesAt.cons (i := 8) (by decide +kernel) (by decide +kernel) (NamesAt.cons (i := 3) (by decide +kernel) (by decide +kernel) NamesAt.nil))
      refine QRef.item op_itemL ?_ ?_
      · exact QRef.var (i := 5) (by decide +kernel)
      exact QRef.int
    refine QRefS.cons ?_ ?_
    · refine QRef1.aug (i := 6) op_isubI ?_ (by decide +kernel)
      refine QRef.bin op_addI ?_ ?_
      · refine QRef.bi1 (bi_len (by decide +kernel)) op_lenS ?_
        exact QRef.var (i := 8) (by decide +kernel)
      refine QRef.bi1 (bi_len (by decide +kernel)) op_lenS ?_
      exact QRef.var (i := 3) (by decide +kernel)
    refine QRefS.cons ?_ ?_
    · refine QRef1.cond ?_ ?_ ?_
      · refine QRefB.cmp op_eqS ?_ ?_
        · exact QRef.var (i := 3) (by decide +kernel)
        exact QRef.str (t := [])
      · refine QRefS.cons ?_ ?_
        · refine QRef1.augL ?_ ?_ ?_
          · exact QRef.var (i := 4) (by decide +kernel)
          · refine QRef.bin op_subI ?_ ?_
            · exact QRef.int
            refine QRef.bi1 (bi_len (by decide +kernel)) op_lenS ?_
            exact QRef.var (i := 8) (by decide +kernel)
          exact QRef.int
        exact QRefS.nil
      refine QRefS.cons ?_ ?_
      · refine QRef1.set (i := 9) ?_ (by decide +kernel) (hs := by intro _ _; kernel_rfl)
        refine QRef.meth meth_split tells_str op_split ?_ ?_
        · exact QRef.var (i := 3) (by decide +kernel)
        exact QRef.str (t := [32])
      refine QRefS.cons ?_ ?_
      · refine QRef1.set (i := 10) ?_ (by decide +kernel) (hs := by intro _ _; kernel_rfl)
        refine QRef.list ?_ (hz := by decide +kernel)
        exact Refs.nil
      refine QRefS.cons ?_ ?_
      · refine QRef1.for ?_ (Tgt.one (i := 11) (by decide +kernel) (by decide +kernel)) ?_
        · refine QRefIt.list ?_
          refine QRef.fromL ?_ ?_
          · exact QRef.var (i := 9) (by decide +kernel)
          exact QRef.int
        refine QRefS.cons ?_ ?_
        · refine QRef1.set (i := 11) ?_ (by decide +kernel) (hs := by intro _ _; kernel_rfl)
          refine QRef.replace ?_ (by decide +kernel) (by decide +kernel) (by decide +kernel)
          exact QRef.var (i := 11) (by decide +kernel)
        refine QRefS.cons ?_ ?_
        · refine QRef1.set (i := 11) ?_ (by decide +kernel) (hs := by intro _ _; kernel_rfl)
          refine QRef.bin op_addS ?_ ?_
          · refine QRef.bi1 (bi_min (by decide +kernel)) op_minS ?_
            exact QRef.var (i := 11) (by decide +kernel)
          refine QRef.bi1 (bi_max (by decide +kernel)) op_maxS ?_
          exact QRef.var (i := 11) (by decide +kernel)
        refine QRefS.cons ?_ ?_
        · refine QRef1.cond ?_ ?_ ?_
          · refine QRefB.cmp op_notInL ?_ ?_
            · exact QRef.var (i := 11) (by decide +kernel)
            exact QRef.var (i := 10) (by decide +kernel)
          · refine QRefS.cons ?_ ?_
            · refine QRef1.expr ?_
              refine QRef.meth meth_append tells_list op_append ?_ ?_
              · exact QRef.var (i := 10) (by decide +kernel)
              exact QRef.var (i := 11) (by decide +kernel)
            exact QRefS.nil
          exact QRefS.nil
        exact QRefS.nil
      refine QRefS.cons ?_ ?_
      · refine QRef1.for ?_ (Tgt.many (NamesAt.cons (i := 12) (by decide +kernel) (by decide +kernel) (NamesAt.cons (i := 3) (by decide +kernel) (by decide +kernel) NamesAt.nil))) ?_
        · refine QRefIt.listT (m := 2) ?_
          refine QRef.list ?_ (hz := by decide +kernel)
          refine QRefs.cons ?_ (by intro _ _; kernel_rfl) ?_
          · refine QRef.tup ?_
            refine QRefs.cons ?_ (by intro _ _; kernel_rfl) ?_
            · exact QRef.var (i := 8) (by decide +kernel)
            refine QRefs.cons ?_ (by intro _ _; kernel_rfl) ?_
            · refine QRef.meth meth_join tells_str op_join ?_ ?_
              · exact QRef.str (t := [32])
              refine QRef.fromL ?_ ?_
              · exact QRef.var (i := 9) (by decide +kernel)
              exact QRef.int
            exact Refs.nil
          refine QRefs.cons ?_ (by intro _ _; kernel_rfl) ?_
          · refine QRef.tup ?_
            refine QRefs.cons ?_ (by intro _ _; kernel_rfl) ?_
            · refine QRef.bin op_addS ?_ ?_
              · exact QRef.var (i := 8) (by decide +kernel)
              exact QRef.str (t := [32])
            refine QRefs.cons ?_ (by intro _ _; kernel_rfl) ?_
            · refine QRef.meth meth_join tells_str op_join ?_ ?_
              · exact QRef.str (t := [32])
              exact QRef.var (i := 10) (by decide +kernel)
            exact Refs.nil
          exact Refs.nil
        refine QRefS.cons ?_ ?_
        · refine QRef1.expr ?_
          refine QRef.accMeth lf.af (name := "push") (fv := 69) (fd := _) (by kernel_rfl) rfl (by decide +kernel) (call_push (n := 2) lf.af) ?_ ?_
          · exact QRef.var (i := 2) (by decide +kernel)
          refine QRefs.cons ?_ (by intro _ _; kernel_rfl) ?_
          · exact QRef.var (i := 12) (by decide +kernel)
          refine QRefs.cons ?_ (by intro _ _; kernel_rfl) ?_
          · exact QRef.var (i := 3) (by decide +kernel)
          exact Refs.nil
        refine QRefS.cons ?_ ?_
        · refine QRef1.aug (i := 6) op_iaddI ?_ (by decide +kernel)
          refine QRef.bin op_addI ?_ ?_
          · refine QRef.bi1 (bi_len (by decide +kernel)) op_lenS ?_
            exact QRef.var (i := 12) (by decide +kernel)
          refine QRef.bi1 (bi_len (by decide +kernel)) op_lenS ?_
          exact QRef.var (i := 3) (by decide +kernel)
        exact QRefS.nil
      exact QRefS.nil
    exact QRefS.nil
  refine QRefS.cons ?_ ?_
  · refine QRef1.ret ?_
    refine QRef.ifexp ?_ ?_ ?_
    · refine QRefB.and ?_ ?_
      · refine QRefB.cmp op_eqD ?_ ?_
        · exact QRef.var (i := 5) (by decide +kernel)
        refine QRef.list ?_ (hz := by decide +kernel)
        refine QRefs.cons ?_ (by intro _ _; kernel_rfl) ?_
        · refine QRef.tup ?_
          refine QRefs.cons ?_ (by intro _ _; kernel_rfl) ?_
          · exact QRef.str (t := [])
          refine QRefs.cons ?_ (by intro _ _; kernel_rfl) ?_
          · exact QRef.str (t := [])
          exact Refs.nil
        exact Refs.nil
      refine QRefB.cmp op_eqD ?_ ?_
      · refine QRef.accMeth lf.af (name := "pop") (fv := 85) (fd := _) (by kernel_rfl) rfl (by decide +kernel) (call_pop (n := 1) lf.af) ?_ ?_
        · exact QRef.var (i := 2) (by decide +kernel)
        exact Refs.nil
      refine QRef.tup ?_
      refine QRefs.cons ?_ (by intro _ _; kernel_rfl) ?_
      · exact QRef.str (t := [])
      refine QRefs.cons ?_ (by intro _ _; kernel_rfl) ?_
      · exact QRef.str (t := [])
      exact Refs.nil
    · exact QRef.var (i := 4) (by decide +kernel)
    refine QRef.list ?_ (hz := by decide +kernel)
    exact Refs.nil
  exact QRefS.nil
end
end Mine
namespace Mine
open PySem PySem.W PyProof.Rows
section
variable {W : Wd} {P : Params}
theorem fnAt__law_paints (lf : LawF W P) : ∃ fd, FnAt W 210 fd := by
  have hf : (kfrag.heap_1 P).lookup 210 = some ⟨.type "function", _, .func _, _⟩ := rfl
  exact ⟨_, ⟨_, lf.af.X _ _ hf, rfl⟩, codeRec_of lf.af.X (by first | rfl | kernel_rfl), rfl, rfl, rfl⟩
theorem ref__law_paints (lf : LawF W P) : RefFn W 2 210 f__law_paints := by
  have hf : (kfrag.heap_1 P).lookup 210 = some ⟨.type "function", _, .func _, _⟩ := rfl
  refine QRefFn.of (n := 1) (Γ := ⟨_, [("ties", 0), ("q", 1), ("choices", 2)]⟩) (ns := ["ties", "q", "choices"]) (ps := ["ties", "q"]) (m := 1) ⟨⟨_, lf.af.X _ _ hf, rfl⟩, codeRec_of lf.af.X (by first | rfl | kernel_rfl), rfl, rfl, rfl⟩ rfl rfl
    ⟨by decide +kernel, by decide +kernel, by decide +kernel, by decide +kernel⟩ rfl rfl (fun vals hv => ?_)
    ?_ rfl rfl
  · match vals, hv with
    | [_, _], _ => rfl
  refine QRefS.cons ?_ ?_
  · refine QRef1.setComp (i := 2) (Γ' := ⟨_, [("number", 0), ("q", 3)]⟩) (own := ["number"]) (g := (gElt (cComp 2 [0] (iRange (cVal (.int 4))) (gElt (cOp2 oModI (cOp2 oDivI (cVar 2) (cOp2 oPowI (cVar 5) (cVar 0))) (cVar 5)))))) ⟨rfl, rfl, (by decide +kernel), (by decide +kernel), (by decide +kernel), (by decide +kernel), (by decide +kernel), (by decide +kernel)⟩ rfl IsLoop.last1 ?_ (Tgt.one (i := 0) (by decide +kernel) (by decide +kernel)) ?_ ?_ (by decide +kernel) (by decide +kernel) (by intro env he; unfold swapsWith Env.blockKind Env.kindOf; rw [he]; rfl)
    · refine QRefIt.range (bi_range (by decide +kernel)) ?_
      refine QRef.bin op_powI ?_ ?_
      · exact QRef.var (i := 1) (by decide +kernel)
      exact QRef.int
    · exact RefI.nil
    refine QRefA.elt ?_
    refine QRef.comp (Γ' := ⟨_, [("place", 0), ("number", 2), ("q", 5)]⟩) (own := ["place"]) (g := (gElt (cOp2 oModI (cOp2 oDivI (cVar 2) (cOp2 oPowI (cVar 5) (cVar 0))) (cVar 5)))) ⟨rfl, rfl, (by decide +kernel), (by decide +kernel), (by decide +kernel), (by decide +kernel), (by decide +kernel), (by decide +kernel)⟩ rfl IsLoop.last1 ?_ (Tgt.one (i := 0) (by decide +kernel) (by decide +kernel)) ?_ ?_
    · refine QRefIt.range (bi_range (by decide +kernel)) ?_
      exact QRef.int
    · exact RefI.nil
    refine QRefA.elt ?_
    refine QRef.bin op_modI ?_ ?_
    · refine QRef.bin op_divI ?_ ?_
      · exact QRef.var (i := 2) (by decide +kernel)
      refine QRef.bin op_powI ?_ ?_
      · exact QRef.var (i := 5) (by decide +kernel)
      exact QRef.var (i := 0) (by decide +kernel)
    exact QRef.var (i := 5) (by decide +kernel)
  refine QRefS.cons ?_ ?_
  · refine QRef1.ret ?_
    refine QRef.bi1 (bi_len (by decide +kernel)) op_lenL ?_
    refine QRef.comp (Γ' := ⟨_, [("paints", 0), ("ties", 2)]⟩) (own := ["paints"]) (g := (gElt (cVar 0))) ⟨rfl, rfl, (by decide +kernel), (by decide +kernel), (by decide +kernel), (by decide +kernel), (by decide +kernel), (by decide +kernel)⟩ rfl IsLoop.last1 ?_ (Tgt.one (i := 0) (by decide +kernel) (by decide +kernel)) ?_ ?_
    · refine QRefIt.list ?_
      exact QRef.var (i := 2) (by decide +kernel)
    · refine QRefI.one ?_
      refine QRefB.cmp op_eqD ?_ ?_
      · refine QRef.comp (Γ' := ⟨_, [("tie", 0), ("paints", 2)]⟩) (own := ["tie"]) (g := (gElt (cVar 0))) ⟨rfl, rfl, (by decide +kernel), (by decide +kernel), (by decide +kernel), (by decide +kernel), (by decide +kernel), (by decide +kernel)⟩ rfl IsLoop.last1 ?_ (Tgt.one (i := 0) (by decide +kernel) (by decide +kernel)) ?_ ?_
        · refine QRefIt.list ?_
          exact QRef.var (i := 2) (by decide +kernel)
        · refine QRefI.one ?_
          refine QRefB.cmp op_eqI ?_ ?_
          · refine QRef.item op_itemL ?_ ?_
            · exact QRef.var (i := 2) (by decide +kernel)
            refine QRef.item op_itemT ?_ ?_
            · exact QRef.var (i := 0) (by decide +kernel)
            exact QRef.int
          refine QRef.item op_itemL ?_ ?_
          · exact QRef.var (i := 2) (by decide +kernel)
          refine QRef.item op_itemT ?_ ?_
          · exact QRef.var (i := 0) (by decide +kernel)
          exact QRef.int
        refine QRefA.elt ?_
        exact QRef.var (i := 0) (by decide +kernel)
      refine QRef.list ?_ (hz := by decide +kernel)
      exact Refs.nil
    refine QRefA.elt ?_
    exact QRef.var (i := 0) (by decide +kernel)
  exact QRefS.nil
theorem fnAt__law_rising (lf : LawF W P) : ∃ fd, FnAt W 217 fd := by
  have hf : (kfrag.heap_1 P).lookup 217 = some ⟨.type "function", _, .func _, _⟩ := rfl
  exact ⟨_, ⟨_, lf.af.X _ _ hf, rfl⟩, codeRec_of lf.af.X (by first | rfl | kernel_rfl), rfl, rfl, rfl⟩
theorem ref__law_rising (lf : LawF W P) : RefFn W 4 217 f__law_rising := by
  have hf : (kfrag.heap_1 P).lookup 217 = some ⟨.type "function", _, .func _, _⟩ := rfl
  refine QRefFn.of (n := 3) (Γ := ⟨_, [("rows", 0), ("k", 1), ("more", 2)]⟩) (ns := ["rows", "k", "more"]) (ps := ["rows"]) (m := 2) ⟨⟨_, lf.af.X _ _ hf, rfl⟩, codeRec_of lf.af.X (by first | rfl | kernel_rfl), rfl, rfl, rfl⟩ rfl rfl
    ⟨by decide +kernel, by decide +kernel, by decide +kernel, by decide +kernel⟩ rfl rfl (fun vals hv => ?_)
    ?_ rfl rfl
  · match vals, hv with
    | [_], _ => rfl
  refine QRefS.cons ?_ ?_
  · refine QRef1.for ?_ (Tgt.one (i := 1) (by decide +kernel) (by decide +kernel)) ?_
    · refine QRefIt.range2 (bi_range (by decide +kernel)) ?_ ?_
      · exact QRef.int
      refine QRef.bi1 (bi_len (by decide +kernel)) op_lenL ?_
      exact QRef.var (i := 0) (by decide +kernel)
    refine QRefS.cons ?_ ?_
    · refine QRef1.set (i := 2) ?_ (by decide +kernel) (hs := by intro _ _; kernel_rfl)
      refine QRef.bin op_subI ?_ ?_
      · refine QRef.ty1 (bi_int (by decide +kernel)) op_int ?_
        refine QRef.item op_itemL ?_ ?_
        · exact QRef.var (i := 0) (by decide +kernel)
        exact QRef.var (i := 1) (by decide +kernel)
      refine QRef.ty1 (bi_int (by decide +kernel)) op_int ?_
      refine QRef.item op_itemL ?_ ?_
      · exact QRef.var (i := 0) (by decide +kernel)
      refine QRef.bin op_subI ?_ ?_
      · exact QRef.var (i := 1) (by decide +kernel)
      exact QRef.int
    refine QRefS.cons ?_ ?_
    · refine QRef1.cond ?_ ?_ ?_
      · refine QRefB.or ?_ ?_
        · refine QRefB.cmp op_neI ?_ ?_
          · refine QRef.callE (F := f__strcoll) (by decide +kernel) (lf.mg "_strcoll" _ rfl) (fnAt__strcoll lf) (RefFn.lift (ref__strcoll lf) (by decide +kernel)) ?_
            refine QRefs.cons ?_ (by intro _ _; kernel_rfl) ?_
            · refine QRef.item op_itemL ?_ ?_
              · exact QRef.var (i := 0) (by decide +kernel)
              refine QRef.bin op_subI ?_ ?_
              · exact QRef.var (i := 1) (by decide +kernel)
              exact QRef.int
            refine QRefs.cons ?_ (by intro _ _; kernel_rfl) ?_
            · refine QRef.item op_itemL ?_ ?_
              · exact QRef.var (i := 0) (by decide +kernel)
              exact QRef.var (i := 1) (by decide +kernel)
            exact Refs.nil
          exact QRef.neg (j := -1)
        refine QRefB.cmp op_neS ?_ ?_
        · refine QRef.bin op_addS ?_ ?_
          · refine QRef.callE (F := f__law_side) (by decide +kernel) (lf.mg "_law_side" _ rfl) (fnAt__law_side lf) (RefFn.lift (ref__law_side lf) (by decide +kernel)) ?_
            refine QRefs.cons ?_ (by intro _ _; kernel_rfl) ?_
            · exact QRef.var (i := 2) (by decide +kernel)
            exact Refs.nil
          refine QRef.callE (F := f__law_side) (by decide +kernel) (lf.mg "_law_side" _ rfl) (fnAt__law_side lf) (RefFn.lift (ref__law_side lf) (by decide +kernel)) ?_
          refine QRefs.cons ?_ (by intro _ _; kernel_rfl) ?_
          · refine QRef.bin op_subI ?_ ?_
            · exact QRef.int
            exact QRef.var (i := 2) (by decide +kernel)
          exact Refs.nil
        exact QRef.str (t := [62, 60])
      · refine QRefS.cons ?_ ?_
        · refine QRef1.ret ?_
          exact QRef.bool
        exact QRefS.nil
      exact QRefS.nil
    exact QRefS.nil
  refine QRefS.cons ?_ ?_
  · refine QRef1.ret ?_
    exact QRef.bool
  exact QRefS.nil
end
end Mine
namespace Mine
open PySem PySem.W PyProof.Rows

theorem baseT_get : ∀ (n k : Nat) (o : Ob), (baseT n).get k = some o → k < n ∧ o = .any
  | 0, k, o, h => by cases h
  | n + 1, k, o, h => by
    rcases Tr.get_put .any (baseT n) n k h with ⟨rfl, rfl⟩ | ⟨_, h'⟩
    · exact ⟨Nat.lt_succ_self _, rfl⟩
    · obtain ⟨a, b⟩ := baseT_get n k o h'
      exact ⟨Nat.lt_succ_of_lt a, b⟩
theorem keepT_get {t t0 : Tr} : ∀ (js : List Nat) (k : Nat) (o : Ob), (keepT t t0 js).get k = some o → t.get k = some o ∨ t0.get k = some o
  | [], k, o, h => .inr h
  | j :: js, k, o, h => by
    have h' : (match t.get j with | some o => (keepT t t0 js).put o j | .none => keepT t t0 js).get k = some o := h
    clear h
    cases e : t.get j with
    | none => rw [e] at h'; exact keepT_get js k o h'
    | some x =>
      rw [e] at h'
      rcases Tr.get_put x (keepT t t0 js) j k h' with ⟨rfl, rfl⟩ | ⟨_, h2⟩
      · exact .inl e
      · exact keepT_get js k o h2
theorem blankOn_len {is : List Nat} : ∀ (l : List V) (i : Nat), (blankOn is l i).length = l.length
  | [], _ => rfl
  | x :: l, i => by
    show ((@Bool.rec (fun _ => V) .unb x (memN i is)) :: blankOn is l (Nat.succ i)).length = _
    simp [blankOn_len l]
theorem blankOn_get {is : List Nat} : ∀ (l : List V) (i j : Nat) (x : V), (blankOn is l i)[j]? = some x → x = .unb ∨ l[j]? = some x
  | [], _, j, x, h => by cases h
  | y :: l, i, 0, x, h => by
    have h' : some (@Bool.rec (fun _ => V) .unb y (memN i is)) = some x := h
    cases q : memN i is with
    | true => rw [q] at h'; exact .inr h'
    | false => rw [q] at h'; exact .inl (Option.some.inj h').symm
  | y :: l, i, j + 1, x, h => by
    have h' : (blankOn is l (Nat.succ i))[j]? = some x := h
    simpa using blankOn_get l _ j x h'
section
variable {W : Wd} {n : Nat} {Γ : Sc}
theorem SR.keepS {φ : List Loc} {h₀ : Heap} {ρ : List Addr} {l : List V} {H : Hp} {s : Shared} (R : SR W φ h₀ ρ l H s) (is js : List Nat) : SR W φ h₀ ρ (blankOn is l 0) ⟨keepT H.t (baseT H.n) js, H.n⟩ s := by
  refine ⟨⟨R.h.len, R.h.nd, fun k o e => ?_, R.h.live, R.h.keep, R.h.sep, R.h.base, R.h.os, R.h.bare, R.h.bok⟩, ⟨(blankOn_len l 0).trans R.f.len, R.f.ok, fun i lc x e1 e2 hx => ?_, R.f.apart, R.f.nρ, R.f.n0⟩⟩
  · rcases keepT_get js k o e with h | h
    · exact R.h.obj k o h
    · obtain ⟨hk, rfl⟩ := baseT_get _ _ _ h
      have hk' : k < ρ.length := by rw [R.h.len]; exact hk
      exact ⟨ρ[k], List.getElem?_eq_getElem hk', R.h.live _ (List.getElem_mem hk')⟩
  · rcases blankOn_get l 0 i x e2 with rfl | h
    · exact absurd rfl hx
    · exact R.f.has i lc x e1 h hx
theorem RefS.keep {is js : List Nat} {sts : List Stmt} {bs : List S} (hb : RefS W n Γ sts (sBlock bs)) : RefS W n Γ sts (sBlock (sKeep is js :: bs)) := by
  intro A E s h₀ ρ φ env l H kn kr kb Q hR hE R h o
  have h' : sBlock bs (blankOn is l 0) ⟨keepT H.t (baseT H.n) js, H.n⟩ kn kr kb = true := h
  exact hb A E s h₀ ρ φ env _ _ kn kr kb Q hR hE (R.keepS is js) h' o
theorem QRefS.keep {is js : List Nat} {sts : List Stmt} {bs : List S} (hb : Box (RefS W n Γ sts (sBlock bs))) : Box (RefS W n Γ sts (sBlock (sKeep is js :: bs))) := ⟨RefS.keep hb.un⟩
end
end Mine
namespace Mine
open PySem PySem.W PyProof.Rows

-- a small heap by its objects
noncomputable def mkT (os : List Ob) : Tr → Nat → Tr := @List.rec Ob (fun _ => Tr → Nat → Tr) (fun t _ => t) (fun o _ ih t i => ih (t.put o i) (Nat.succ i)) os
noncomputable def mkHp (os : List Ob) : Hp := ⟨mkT os .nil 0, lenL os⟩
theorem mkT_get : ∀ (os : List Ob) (t : Tr) (i k : Nat) (o : Ob), (mkT os t i).get k = some o → (∃ j, k = i + j ∧ os[j]? = some o) ∨ t.get k = some o
  | [], t, i, k, o, h => .inr h
  | x :: os, t, i, k, o, h => by
    have h' : (mkT os (t.put x i) (Nat.succ i)).get k = some o := h
    rcases mkT_get os _ _ k o h' with ⟨j, e, ho⟩ | h2
    · exact .inl ⟨j + 1, by omega, by simpa using ho⟩
    · rcases Tr.get_put x t i k h2 with ⟨rfl, rfl⟩ | ⟨_, h3⟩
      · exact .inl ⟨0, by omega, rfl⟩
      · exact .inr h3
section
variable {W : Wd} {n : Nat} {Γ : Sc}
/-- a part of what is held, seen alone -/
theorem HR.small {h₀ : Heap} {ρ ρs : List Addr} {H : Hp} {s : Shared} (R : HR W h₀ ρ H s) (hsub : ∀ a ∈ ρs, a ∈ ρ) (hnd : ρs.Nodup) {os : List Ob} (hlen : ρs.length = os.length)
    (hpre : ∀ (k : Nat) (o : Ob), os[k]? = some o → ∃ a, ρs[k]? = some a ∧ OB W ρs s.heap a o) : HR W (mask s.heap ρs) ρs (mkHp os) s := by
  refine ⟨by rw [hlen]; exact (lenL_eq os).symm, hnd, fun k o e => ?_, fun a ha => R.live a (hsub a ha), fun b o e => (mask_sub e).1, fun a ha => by rw [mask_get, if_pos ha], fun b o e => ?_, R.os, R.bare, R.bok⟩
  · rcases mkT_get os .nil 0 k o e with ⟨j, rfl, ho⟩ | h
    · rw [Nat.zero_add]; exact hpre j o ho
    · cases h
  · rw [mask_get, if_neg]
    · exact R.keep b o (R.base b o e)
    · intro hm
      have := R.sep b (hsub b hm)
      rw [R.base b o e] at this; cases this
/-- back in the whole -/
theorem SR.big {φ : List Loc} {h₀ : Heap} {ρ ρs ρs' : List Addr} {l : List V} {H H' : Hp} {s s' : Shared} (R : SR W φ h₀ ρ l H s) (hsub : ∀ a ∈ ρs, a ∈ ρ) (R' : HR W (mask s.heap ρs) ρs' H' s') (hp : ρs <+: ρs')
    (hpost : ∀ (j : Nat) (a : Addr) (o : Ob), ρ[j]? = some a → a ∈ ρs → H.t.get j = some o → OB W ρ s'.heap a o) : SR W φ h₀ ρ l H s' ∧ ∀ a ∈ ρs', a ∉ ρs → a ∉ ρ ∧ h₀.get? a = none ∧ ∀ lc ∈ φ, lc.addr ≠ a := by
  have hm : ∀ b o, b ∉ ρs → s.heap.get? b = some o → s'.heap.get? b = some o := fun b o hb e => R'.keep b o (by rw [mask_get, if_neg hb]; exact e)
  have hloc : ∀ lc ∈ φ, ∃ o, s.heap.get? lc.addr = some o := fun lc h => by
    have := R.f.ok lc h
    cases lc with
    | var L x => obtain ⟨m, o, es, ep, e, _⟩ := this; exact ⟨o, e⟩
    | cell c => obtain ⟨v, o, e, _⟩ := this; exact ⟨o, e⟩
  have hφ : ∀ lc ∈ φ, ∀ o, s.heap.get? lc.addr = some o → s'.heap.get? lc.addr = some o := fun lc h o e => hm _ o (fun q => R.f.nρ lc h (hsub _ q)) e
  refine ⟨⟨⟨R.h.len, R.h.nd, fun j o e => ?_, fun a ha => ?_, fun b o e => ?_, R.h.sep, R.h.base, R'.os, R'.bare, R.h.bok⟩,
    ⟨R.f.len, fun lc h => (R.f.ok lc h).at (hφ lc h), fun i lc x e1 e2 hx => let ⟨v, hv, hr⟩ := R.f.has i lc x e1 e2 hx; ⟨v, hv.at (hφ lc (List.mem_of_getElem? e1)), hr⟩, R.f.apart, R.f.nρ, R.f.n0⟩⟩, fun a ha hna => ?_⟩
  · obtain ⟨a, ha, ho⟩ := R.h.obj j o e
    refine ⟨a, ha, ?_⟩
    by_cases q : a ∈ ρs
    · exact hpost j a o ha q e
    · exact ho.at fun ob e => hm a ob q e
  · by_cases q : a ∈ ρs
    · exact R'.live a (hp.subset q)
    · obtain ⟨o, e⟩ := R.h.live a ha
      exact ⟨o, hm a o q e⟩
  · refine hm b o (fun q => ?_) (R.h.keep b o e)
    have := R.h.sep b (hsub b q)
    rw [e] at this; cases this
  · have h1 := R'.sep a ha
    rw [mask_get, if_neg hna] at h1
    refine ⟨fun q => ?_, ?_, fun lc h q => ?_⟩
    · obtain ⟨o, e⟩ := R.h.live a q
      rw [h1] at e; cases e
    · cases e : h₀.get? a with
      | none => rfl
      | some o => have := R.h.keep a o e; rw [h1] at this; cases this
    · obtain ⟨o, e⟩ := hloc lc h
      rw [q, h1] at e; cases e
end
end Mine
-- the table of the counts printed by mkA.py
namespace Mine
open PySem PySem.W PyProof.Rows
noncomputable section
def endsTab : List (List Nat) := [[0, 0, 0, 0, 1], [0, 0, 0, 1, 1], [0, 0, 0, 1, 1], [0, 0, 1, 2, 1], [0, 0, 0, 1, 1], [0, 0, 1, 2, 1], [0, 0, 1, 2, 1], [0, 1, 3, 3, 1], [0, 0, 0, 1, 1], [0, 0, 1, 2, 1], [0, 0, 1, 2, 1], [0, 0, 2, 3, 1], [0, 0, 1, 2, 1], [0, 1, 3, 3, 1], [0, 1, 3, 3, 1], [0, 2, 5, 4, 1], [0, 0, 0, 1, 1], [0, 0, 1, 2, 1], [0, 0, 1, 2, 1], [0, 1, 3, 3, 1], [0, 0, 1, 2, 1], [0, 0, 2, 3, 1], [0, 1, 3, 3, 1], [0, 2, 5, 4, 1], [0, 0, 1, 2, 1], [0, 1, 3, 3, 1], [0, 1, 3, 3, 1], [0, 2, 5, 4, 1], [0, 1, 3, 3, 1], [0, 2, 5, 4, 1], [0, 3, 6, 4, 1], [0, 4, 8, 5, 1], [0, 0, 0, 1, 1], [0, 0, 1, 2, 1], [0, 0, 1, 2, 1], [0, 1, 3, 3, 1], [0, 0, 1, 2, 1], [0, 1, 3, 3, 1], [0, 0, 2, 3, 1], [0, 2, 5, 4, 1], [0, 0, 1, 2, 1], [0, 1, 3, 3, 1], [0, 1, 3, 3, 1], [0, 2, 5, 4, 1], [0, 1, 3, 3, 1], [0, 3, 6, 4, 1], [0, 2, 5, 4, 1], [0, 4, 8, 5, 1], [0, 0, 1, 2, 1], [0, 1, 3, 3, 1], [0, 1, 3, 3, 1], [0, 3, 6, 4, 1], [0, 1, 3, 3, 1], [0, 2, 5, 4, 1], [0, 2, 5, 4, 1], [0, 4, 8, 5, 1], [0, 0, 2, 3, 1], [0, 2, 5, 4, 1], [0, 2, 5, 4, 1], [0, 4, 8, 5, 1], [0, 2, 5, 4, 1], [0, 4, 8, 5, 1], [0, 4, 8, 5, 1], [0, 6, 11, 6, 1]]
def pickB (ps : List (Nat × Nat)) : Nat → List (Nat × Nat) := @List.rec (Nat × Nat) (fun _ => Nat → List (Nat × Nat)) (fun _ => []) (fun p _ ih m => @Bool.rec (fun _ => List (Nat × Nat)) (ih (m / 2)) (p :: ih (m / 2)) (Nat.beq (m % 2) 1)) ps
def pairsOf (m : Nat) : List (Nat × Nat) := pickB [(0, 1), (0, 2), (0, 3), (1, 2), (1, 3), (2, 3)] m
def eqP (a : List (Nat × Nat)) : List (Nat × Nat) → Bool := @List.rec (Nat × Nat) (fun _ => List (Nat × Nat) → Bool) (fun b => @List.rec (Nat × Nat) (fun _ => Bool) true (fun _ _ _ => false) b)
  (fun x _ ih b => @List.rec (Nat × Nat) (fun _ => Bool) false (fun y ys _ => @Bool.rec (fun _ => Bool) false (@Bool.rec (fun _ => Bool) false (ih ys) (Nat.beq x.2 y.2)) (Nat.beq x.1 y.1)) b) a
def codeP (p : Nat × Nat) : Nat := match nthO [[0, 1, 2, 4], [0, 0, 8, 16], [0, 0, 0, 32]] p.1 with | some r => (match nthO r p.2 with | some c => c | .none => 0) | .none => 0
def codeS (ps : List (Nat × Nat)) : Nat := @List.rec (Nat × Nat) (fun _ => Nat) 0 (fun p _ n => codeP p + n) ps
/-- the counts of a net -/
def endsFor (ps : List (Nat × Nat)) : Option (List Nat) := @Bool.rec (fun _ => Option (List Nat)) .none (nthO endsTab (codeS ps)) (eqP ps (pairsOf (codeS ps)))
def refsOf (vs : List V) : (List Nat → Bool) → Bool := @List.rec V (fun _ => (List Nat → Bool) → Bool) (fun k => k []) (fun x _ ih k => asRef x fun j => ih fun js => k (j :: js)) vs
def pairsIn (h : Hp) (js : List Nat) : (List (Nat × Nat) → Bool) → Bool := @List.rec Nat (fun _ => (List (Nat × Nat) → Bool) → Bool) (fun k => k [])
  (fun j _ ih k => match h.t.get j with | some (.tup [.int (.ofNat a), .int (.ofNat b)]) => ih fun ps => k ((a, b) :: ps) | _ => false) js
def nodupB (js : List Nat) : Bool := @List.rec Nat (fun _ => Bool) true (fun j r ih => @Bool.rec (fun _ => Bool) ih false (memN j r)) js
def intsV (es : List Nat) : List V := mapL (fun n => V.int (Int.ofNat n)) es
def apartT (v : V) (h : Hp) (k : K) : Bool := asRef v fun t => match h.t.get 0 with
  | some .tab => (match h.t.get t with
    | some (.list vs) => refsOf vs fun js => pairsIn h js fun ps => chk (nodupB (0 :: t :: js)) (match endsFor ps with | some es => newO (.list (intsV es)) h k | .none => false)
    | _ => false)
  | _ => false
def cApartX (F G : C) : C := fun l h k => F l h fun v h => G l h fun w h => asInt w fun _ => apartT v h k
def fArg : Fn := fun args h k => match args with
  | [v, .int y] => chk (leZ 0 y) (chk (ltZ y 4) (apartT v h k))
  | _ => false
-- the small heap, and what is asked of it behind the call
def refsFrom (ps : List (Nat × Nat)) : Nat → List V := @List.rec (Nat × Nat) (fun _ => Nat → List V) (fun _ => []) (fun _ _ ih i => V.ref i :: ih (Nat.succ i)) ps
def tupsOf (ps : List (Nat × Nat)) : List Ob := mapL (fun p => Ob.tup [.int (Int.ofNat p.1), .int (Int.ofNat p.2)]) ps
def osA (ps : List (Nat × Nat)) : List Ob := .tab :: .list (refsFrom ps 2) :: tupsOf ps
def eqV (a b : V) : Bool := match a, b with
  | .int i, .int j => eqZ i j
  | .ref i, .ref j => Nat.beq i j
  | _, _ => false
def eqVs (a : List V) : List V → Bool := @List.rec V (fun _ => List V → Bool) (fun b => @List.rec V (fun _ => Bool) true (fun _ _ _ => false) b)
  (fun x _ ih b => @List.rec V (fun _ => Bool) false (fun y ys _ => @Bool.rec (fun _ => Bool) false (ih ys) (eqV x y)) b) a
def eqOb (a b : Ob) : Bool := match a, b with
  | .tab, .tab => true
  | .list x, .list y => eqVs x y
  | .tup x, .tup y => eqVs x y
  | _, _ => false
def sameOs (h : Hp) (os : List Ob) : Nat → Bool := @List.rec Ob (fun _ => Nat → Bool) (fun _ => true) (fun o _ ih i => match h.t.get i with | some o' => @Bool.rec (fun _ => Bool) false (ih (Nat.succ i)) (eqOb o' o) | .none => false) os
def probeA (ps : List (Nat × Nat)) (es : List Nat) : K := fun v h => asRef v fun e => chk (Nat.blt (lenL ps + 1) e) (chk (sameOs h (osA ps) 0) (match h.t.get e with | some (.list vs) => eqVs vs (intsV es) | _ => false))
end
end Mine
namespace Mine
open PySem PySem.W PyProof.Rows

theorem eqV_eq {a b : V} (h : eqV a b = true) : a = b := by
  cases a <;> cases b <;> first | exact absurd h Bool.false_ne_true | skip
  · rw [(eqZ_iff _ _).mp h]
  · rw [Nat.eq_of_beq_eq_true h]
theorem eqVs_eq : ∀ {a b : List V}, eqVs a b = true → a = b
  | [], [], _ => rfl
  | [], _ :: _, h => absurd h Bool.false_ne_true
  | _ :: _, [], h => absurd h Bool.false_ne_true
  | x :: xs, y :: ys, h => by
    have h' : @Bool.rec (fun _ => Bool) false (eqVs xs ys) (eqV x y) = true := h
    rcases rec_tt h' with ⟨h1, h2⟩ | ⟨_, h2⟩
    · rw [eqV_eq h1, eqVs_eq h2]
    · cases h2
theorem eqOb_eq {a b : Ob} (h : eqOb a b = true) : a = b := by
  cases a <;> cases b <;> first | exact absurd h Bool.false_ne_true | skip
  · rw [eqVs_eq h]
  · rw [eqVs_eq h]
  · rfl
theorem sameOs_get {H : Hp} : ∀ {os : List Ob} {i : Nat}, sameOs H os i = true → ∀ (k : Nat) (o : Ob), os[k]? = some o → H.t.get (i + k) = some o
  | [], _, _, k, o, e => by cases e
  | x :: os, i, h, k, o, e => by
    have h' : (match H.t.get i with | some o' => @Bool.rec (fun _ => Bool) false (sameOs H os (Nat.succ i)) (eqOb o' x) | .none => false) = true := h
    clear h
    cases q : H.t.get i with
    | none => rw [q] at h'; cases h'
    | some o' =>
      rw [q] at h'
      rcases rec_tt h' with ⟨h1, h2⟩ | ⟨_, h2⟩
      · cases k with
        | zero => cases e; rw [Nat.add_zero, q, eqOb_eq h1]
        | succ k =>
          have := sameOs_get h2 k o (by simpa using e)
          rw [show i + (k + 1) = Nat.succ i + k by omega]; exact this
      · cases h2
theorem eqP_eq : ∀ {a b : List (Nat × Nat)}, eqP a b = true → a = b
  | [], [], _ => rfl
  | [], _ :: _, h => absurd h Bool.false_ne_true
  | _ :: _, [], h => absurd h Bool.false_ne_true
  | (x1, x2) :: xs, (y1, y2) :: ys, h => by
    have h' : @Bool.rec (fun _ => Bool) false (@Bool.rec (fun _ => Bool) false (eqP xs ys) (Nat.beq x2 y2)) (Nat.beq x1 y1) = true := h
    rcases rec_tt h' with ⟨h1, h2⟩ | ⟨_, h2⟩
    · rcases rec_tt h2 with ⟨h3, h4⟩ | ⟨_, h4⟩
      · rw [Nat.eq_of_beq_eq_true h1, Nat.eq_of_beq_eq_true h3, eqP_eq h4]
      · cases h4
    · cases h2
theorem endsFor_of {ps : List (Nat × Nat)} {es : List Nat} (h : endsFor ps = some es) : ∃ m, m < 64 ∧ ps = pairsOf m ∧ endsTab[m]? = some es := by
  have h' : @Bool.rec (fun _ => Option (List Nat)) .none (nthO endsTab (codeS ps)) (eqP ps (pairsOf (codeS ps))) = some es := h
  cases q : eqP ps (pairsOf (codeS ps)) with
  | false => rw [q] at h'; cases h'
  | true =>
    rw [q] at h'
    have h2 : nthO endsTab (codeS ps) = some es := h'
    rw [nthO_eq] at h2
    exact ⟨codeS ps, (List.getElem?_eq_some_iff.mp h2).1, eqP_eq q, h2⟩
theorem refsOf_of : ∀ {vs : List V} {k : List Nat → Bool}, refsOf vs k = true → ∃ js, vs = js.map V.ref ∧ k js = true
  | [], k, h => ⟨[], rfl, h⟩
  | x :: vs, k, h => by
    obtain ⟨j, rfl, h1⟩ := asRef_of (show asRef x (fun j => refsOf vs fun js => k (j :: js)) = true from h)
    obtain ⟨js, rfl, h2⟩ := refsOf_of h1
    exact ⟨j :: js, rfl, h2⟩
theorem pairsIn_of {H : Hp} : ∀ {js : List Nat} {k : List (Nat × Nat) → Bool}, pairsIn H js k = true → ∃ ps : List (Nat × Nat), ps.length = js.length ∧ (∀ (i j : Nat) (p : Nat × Nat), js[i]? = some j → ps[i]? = some p → H.t.get j = some (.tup [.int (Int.ofNat p.1), .int (Int.ofNat p.2)])) ∧ k ps = true
  | [], k, h => ⟨[], rfl, fun i j p e => (by cases e), h⟩
  | x :: js, k, h => by
    have h' : (match H.t.get x with | some (.tup [.int (.ofNat a), .int (.ofNat b)]) => pairsIn H js fun ps => k ((a, b) :: ps) | _ => false) = true := h
    clear h
    match q : H.t.get x, h' with
    | some (.tup [.int (.ofNat a), .int (.ofNat b)]), h' =>
      obtain ⟨ps, h1, h2, h3⟩ := pairsIn_of h'
      refine ⟨(a, b) :: ps, by simp [h1], fun i j p e1 e2 => ?_, h3⟩
      cases i with
      | zero => cases e1; cases e2; exact q
      | succ i => exact h2 i j p (by simpa using e1) (by simpa using e2)
theorem memN_iff {i : Nat} : ∀ {js : List Nat}, memN i js = true ↔ i ∈ js
  | [] => ⟨fun h => absurd h Bool.false_ne_true, fun h => by cases h⟩
  | j :: js => by
    show @Bool.rec (fun _ => Bool) (memN i js) true (Nat.beq i j) = true ↔ _
    cases q : Nat.beq i j with
    | true => exact ⟨fun _ => by rw [Nat.eq_of_beq_eq_true q]; exact List.mem_cons_self, fun _ => rfl⟩
    | false =>
      show memN i js = true ↔ _
      rw [memN_iff, List.mem_cons]
      exact ⟨.inr, fun h => h.resolve_left (Nat.ne_of_beq_eq_false q)⟩
theorem nodupB_of : ∀ {js : List Nat}, nodupB js = true → js.Nodup
  | [], _ => List.nodup_nil
  | j :: js, h => by
    have h' : @Bool.rec (fun _ => Bool) (nodupB js) false (memN j js) = true := h
    rcases rec_tt h' with ⟨_, h2⟩ | ⟨h1, h2⟩
    · cases h2
    · rw [List.nodup_cons]
      exact ⟨fun hm => (by rw [memN_iff.mpr hm] at h1; cases h1), nodupB_of h2⟩
theorem intsV_rel {ρ ρ' : List Addr} : ∀ {es : List Nat} {its : List Value}, VRs ρ (intsV es) its → VRs ρ' (intsV es) its
  | [], [], _ => trivial
  | e :: es, v :: its, ⟨a, b⟩ => ⟨a, intsV_rel b⟩
  | [], _ :: _, q => q.elim
  | _ :: _, [], q => q.elim
theorem refsFrom_len (ps : List (Nat × Nat)) : ∀ i, (refsFrom ps i).length = ps.length := by
  induction ps with
  | nil => intro i; rfl
  | cons p ps ih => intro i; show (V.ref i :: refsFrom ps (Nat.succ i)).length = _; simp [ih]
/-- the same addresses, numbered anew -/
theorem refs_rel {ρ ρs : List Addr} : ∀ {js : List Nat} {ps : List (Nat × Nat)} {i : Nat} {its : List Value}, ps.length = js.length → (∀ k j, js[k]? = some j → ∃ a, ρ[j]? = some a ∧ ρs[i + k]? = some a) → (VRs ρs (refsFrom ps i) its ↔ VRs ρ (js.map V.ref) its)
  | [], [], i, its, _, _ => by cases its <;> exact Iff.rfl
  | j :: js, p :: ps, i, its, hl, h => by
    cases its with
    | nil => exact Iff.rfl
    | cons v its =>
      have h0 := h 0 j rfl
      have ih := refs_rel (js := js) (ps := ps) (i := Nat.succ i) (its := its) (by simpa using hl) fun k j' e => by
        have := h (k + 1) j' (by simpa using e)
        rw [show Nat.succ i + k = i + (k + 1) by omega]; exact this
      obtain ⟨a, h1, h2⟩ := h0
      show (VR ρs (.ref i) v ∧ VRs ρs (refsFrom ps (Nat.succ i)) its) ↔ (VR ρ (.ref j) v ∧ VRs ρ (js.map V.ref) its)
      rw [ih]
      refine and_congr ⟨?_, ?_⟩ Iff.rfl
      · rintro ⟨b, hb, rfl⟩; rw [Nat.add_zero] at h2; rw [h2] at hb; cases hb; exact ⟨a, h1, rfl⟩
      · rintro ⟨b, hb, rfl⟩; rw [h1] at hb; cases hb; rw [Nat.add_zero] at h2; exact ⟨a, h2, rfl⟩
  | [], _ :: _, _, _, hl, _ => by simp at hl
  | _ :: _, [], _, _, hl, _ => by simp at hl
end Mine
namespace Mine
open PySem PySem.W PyProof.Rows

/-- the plain law of _law_apart, on its small heap -/
def P1 : Prop := ∀ m, m < 64 → ∀ r, r < 4 → ∀ es, endsTab[m]? = some es → f__law_apart [.ref 1, .int (Int.ofNat r)] (mkHp (osA (pairsOf m))) (probeA (pairsOf m) es) = true

theorem osA_two (ps : List (Nat × Nat)) (k : Nat) (o : Ob) (e : (osA ps)[k + 2]? = some o) : ∃ p, ps[k]? = some p ∧ o = .tup [.int (Int.ofNat p.1), .int (Int.ofNat p.2)] := by
  have e' : (tupsOf ps)[k]? = some o := by simpa [osA] using e
  unfold tupsOf at e'
  rw [mapL_eq, List.getElem?_map] at e'
  cases q : ps[k]? with
  | none => rw [q] at e'; cases e'
  | some p => rw [q] at e'; cases e'; exact ⟨p, rfl, rfl⟩
theorem osA_tup (ps : List (Nat × Nat)) (k : Nat) (p : Nat × Nat) (e : ps[k]? = some p) : (osA ps)[k + 2]? = some (.tup [.int (Int.ofNat p.1), .int (Int.ofNat p.2)]) := by
  have : (tupsOf ps)[k]? = some (.tup [.int (Int.ofNat p.1), .int (Int.ofNat p.2)]) := by
    unfold tupsOf
    rw [mapL_eq, List.getElem?_map, e]; rfl
  simpa [osA] using this
section
variable {W : Wd} {n : Nat} {Γ : Sc} {P : Params}
theorem ref_fArg (lf : LawF W P) (p1 : P1) : RefFn W 6 205 fArg := by
  intro A E s h₀ ρ φ l H k Q vals xs hR R r h hP
  match xs, vals, r, h with
  | [v, .int y], [va, vb], ⟨ra, rb, _⟩, h =>
    obtain ⟨c1, h1⟩ := chk_of h
    obtain ⟨c2, h2⟩ := chk_of h1
    have y0 := (leZ_iff _ _).mp c1
    have y4 := (ltZ_iff _ _).mp c2
    obtain ⟨t, rfl, h3⟩ := asRef_of (show asRef v _ = true from h2)
    clear h h1 h2
    cases g0 : H.t.get 0 with
    | none => rw [g0] at h3; cases h3
    | some o0 =>
      rw [g0] at h3
      cases o0 with
      | tab =>
        have h3 : (match H.t.get t with
          | some (.list vs) => refsOf vs fun js => pairsIn H js fun ps => chk (nodupB (0 :: t :: js)) (match endsFor ps with | some es => newO (.list (intsV es)) H k | .none => false)
          | _ => false) = true := h3
        cases gt : H.t.get t with
        | none => rw [gt] at h3; cases h3
        | some ot =>
          rw [gt] at h3
          cases ot with
          | list vs =>
            obtain ⟨js, rfl, h5⟩ := refsOf_of h3
            obtain ⟨ps, hlen, hps, h6⟩ := pairsIn_of h5
            obtain ⟨c3, h7⟩ := chk_of h6
            have nd := nodupB_of c3
            clear h3 h5 h6
            cases q : endsFor ps with
            | none => rw [q] at h7; cases h7
            | some es =>
              rw [q] at h7
              have h7 : k (.ref H.n) ⟨H.t.put (.list (intsV es)) H.n, H.n.succ⟩ = true := h7
              obtain ⟨m, hm, hpm, hes⟩ := endsFor_of q
              obtain ⟨tk, rfl⟩ := rb
              obtain ⟨a, ha, rfl⟩ := ra
              obtain ⟨r, rfl⟩ := Int.eq_ofNat_of_zero_le y0
              have ev := p1 m hm r (by omega) es hes
              rw [← hpm] at ev
              clear hes
              -- the addresses
              have hobj : ∀ (kk j : Nat), (0 :: t :: js)[kk]? = some j → ∃ a, ρ[j]? = some a := fun kk j e => by
                match kk, e with
                | 0, e => cases e; obtain ⟨b, hb, _⟩ := R.h.obj 0 _ g0; exact ⟨b, hb⟩
                | 1, e => cases e; exact ⟨a, ha⟩
                | kk + 2, e =>
                  have e' : js[kk]? = some j := by simpa using e
                  have hlt : kk < ps.length := by rw [hlen]; exact (List.getElem?_eq_some_iff.mp e').1
                  obtain ⟨b, hb, _⟩ := R.h.obj j _ (hps kk j _ e' (List.getElem?_eq_getElem hlt))
                  exact ⟨b, hb⟩
              let ρs : List Addr := (0 :: t :: js).map fun j => ρ.getD j 0
              have hget : ∀ (kk j : Nat), (0 :: t :: js)[kk]? = some j → ∃ a, ρ[j]? = some a ∧ ρs[kk]? = some a := fun kk j e => by
                obtain ⟨b, hb⟩ := hobj kk j e
                refine ⟨b, hb, ?_⟩
                show ((0 :: t :: js).map fun j => ρ.getD j 0)[kk]? = some b
                rw [List.getElem?_map, e]
                show some (ρ.getD j 0) = some b
                rw [List.getD_eq_getElem?_getD, hb]; rfl
              have hback : ∀ (kk : Nat) (a : Addr), ρs[kk]? = some a → ∃ j, (0 :: t :: js)[kk]? = some j ∧ ρ[j]? = some a := fun kk b e => by
                have e' : ((0 :: t :: js)[kk]?).map (fun j => ρ.getD j 0) = some b := by rw [← List.getElem?_map]; exact e
                cases q : (0 :: t :: js)[kk]? with
                | none => rw [q] at e'; cases e'
                | some j =>
                  obtain ⟨c, hc1, hc2⟩ := hget kk j q
                  rw [e] at hc2; cases hc2
                  exact ⟨j, rfl, hc1⟩
              have hsub : ∀ b ∈ ρs, b ∈ ρ := fun b hb => by
                obtain ⟨kk, hk, e⟩ := List.mem_iff_getElem.mp hb
                obtain ⟨j, _, hj⟩ := hback kk b (List.getElem?_eq_some_iff.mpr ⟨hk, e⟩)
                exact List.mem_of_getElem? hj
              have inj : ∀ (i j : Nat) (b : Addr), ρ[i]? = some b → ρ[j]? = some b → i = j := fun i j b e1 e2 => by
                obtain ⟨l1, q1⟩ := List.getElem?_eq_some_iff.mp e1
                obtain ⟨l2, q2⟩ := List.getElem?_eq_some_iff.mp e2
                exact nodup_inj R.h.nd l1 l2 (q1.trans q2.symm)
              have hnd : ρs.Nodup := by
                show ((0 :: t :: js).map fun j => ρ.getD j 0).Nodup
                unfold List.Nodup
                rw [List.pairwise_map]
                refine List.Pairwise.imp_of_mem (fun {x y} hx hy hne e => hne ?_) nd
                obtain ⟨kx, hkx, ex⟩ := List.mem_iff_getElem.mp hx
                obtain ⟨ky, hky, ey⟩ := List.mem_iff_getElem.mp hy
                obtain ⟨bx, hbx⟩ := hobj kx x (List.getElem?_eq_some_iff.mpr ⟨hkx, ex⟩)
                obtain ⟨by', hby⟩ := hobj ky y (List.getElem?_eq_some_iff.mpr ⟨hky, ey⟩)
                rw [List.getD_eq_getElem?_getD, List.getD_eq_getElem?_getD, hbx, hby] at e
                have e : bx = by' := e
                subst e
                exact inj _ _ _ hbx hby
              have hrel : ∀ (kk j : Nat), js[kk]? = some j → ∃ a, ρ[j]? = some a ∧ ρs[2 + kk]? = some a := fun kk j e => hget (2 + kk) j (by rw [Nat.add_comm]; simpa using e)
              have hpre : ∀ (kk : Nat) (o : Ob), (osA ps)[kk]? = some o → ∃ a, ρs[kk]? = some a ∧ OB W ρs s.heap a o := fun kk o e => by
                match kk, e with
                | 0, e =>
                  cases e
                  obtain ⟨b, hb, ho⟩ := R.h.obj 0 _ g0
                  obtain ⟨b', hb1, hb2⟩ := hget 0 0 rfl
                  rw [hb] at hb1; cases hb1
                  exact ⟨b, hb2, ho⟩
                | 1, e =>
                  cases e
                  obtain ⟨b, hb, items, hp, hv⟩ := R.h.obj t _ gt
                  obtain ⟨b', hb1, hb2⟩ := hget 1 t rfl
                  rw [hb] at hb1; cases hb1
                  exact ⟨b, hb2, items, hp, (refs_rel hlen hrel).mpr hv⟩
                | kk + 2, e =>
                  obtain ⟨p, hp, rfl⟩ := osA_two ps kk o e
                  have hlt : kk < js.length := by rw [← hlen]; exact (List.getElem?_eq_some_iff.mp hp).1
                  obtain ⟨b, hb, items, nn, hob, hv⟩ := R.h.obj _ _ (hps kk _ p (List.getElem?_eq_getElem hlt) hp)
                  obtain ⟨b', hb1, hb2⟩ := hget (kk + 2) js[kk] (by simp)
                  rw [hb] at hb1; cases hb1
                  refine ⟨b, hb2, items, nn, hob, ?_⟩
                  match items, hv with
                  | [u, w], ⟨q1, q2, _⟩ => exact ⟨q1, q2, trivial⟩
              have hlenρ : ρs.length = ps.length + 2 := by show ((0 :: t :: js).map _).length = _; simp [hlen]
              have Rs := R.h.small hsub hnd (os := osA ps) (by rw [hlenρ]; show _ = (Ob.tab :: .list (refsFrom ps 2) :: tupsOf ps).length; unfold tupsOf; rw [mapL_eq]; simp) hpre
              obtain ⟨at', hat1, hat2⟩ := hget 1 t rfl
              rw [ha] at hat1; cases hat1
              refine ref__law_apart lf A E s (mask s.heap ρs) ρs [] [] (mkHp (osA ps)) (probeA ps es) Q [.ref a, .int (Int.ofNat r) tk] [.ref 1, .int (Int.ofNat r)] hR ⟨Rs, ⟨rfl, fun lc h => (nomatch h), fun i lc x e => (by cases e), List.Pairwise.nil, fun lc h => (nomatch h), fun lc h => (nomatch h)⟩⟩ ⟨⟨a, hat2, rfl⟩, ⟨tk, rfl⟩, trivial⟩ ev ?_
              intro w x ρ' H' s' hp' R' r' hk
              obtain ⟨e, rfl, h8⟩ := asRef_of (show asRef x _ = true from hk)
              obtain ⟨ce, h9⟩ := chk_of h8
              obtain ⟨cs, h10⟩ := chk_of h9
              have hsame := sameOs_get cs
              have he := PySem.W.Z.blt_iff.mp ce
              rw [lenL_eq] at he
              clear h8 h9 hk
              cases ge : H'.t.get e with
              | none => rw [ge] at h10; cases h10
              | some oe =>
                rw [ge] at h10
                cases oe with
                | list vs =>
                  have hvs := eqVs_eq (show eqVs vs (intsV es) = true from h10)
                  subst hvs
                  obtain ⟨ae, hae, rfl⟩ := r'
                  have hne : ae ∉ ρs := fun hm => by
                    obtain ⟨kk, hk, e1⟩ := List.mem_iff_getElem.mp hm
                    have e2 : ρs[kk]? = some ae := List.getElem?_eq_some_iff.mpr ⟨hk, e1⟩
                    have e3 := get_pre hp' e2
                    obtain ⟨l1, q1⟩ := List.getElem?_eq_some_iff.mp e3
                    obtain ⟨l2, q2⟩ := List.getElem?_eq_some_iff.mp hae
                    have := nodup_inj R'.h.nd l1 l2 (q1.trans q2.symm)
                    omega
                  have hpost : ∀ (j : Nat) (b : Addr) (o : Ob), ρ[j]? = some b → b ∈ ρs → H.t.get j = some o → OB W ρ s'.heap b o := fun j b o hj hm ho => by
                    obtain ⟨kk, hk, e1⟩ := List.mem_iff_getElem.mp hm
                    have e2 : ρs[kk]? = some b := List.getElem?_eq_some_iff.mpr ⟨hk, e1⟩
                    obtain ⟨j', hj1, hj2⟩ := hback kk b e2
                    have := inj _ _ _ hj hj2
                    subst this
                    have e3 := get_pre hp' e2
                    match kk, hj1, e3 with
                    | 0, hj1, e3 =>
                      cases hj1
                      rw [g0] at ho; cases ho
                      obtain ⟨b', hb', hob⟩ := R'.h.obj 0 _ (by have := hsame 0 .tab rfl; simpa using this)
                      rw [e3] at hb'; cases hb'
                      exact hob
                    | 1, hj1, e3 =>
                      cases hj1
                      rw [gt] at ho; cases ho
                      obtain ⟨b', hb', items, hpl, hv⟩ := R'.h.obj 1 _ (by have := hsame 1 _ rfl; simpa using this)
                      rw [e3] at hb'; cases hb'
                      exact ⟨items, hpl, (refs_rel hlen fun kk j e => let ⟨c, h1, h2⟩ := hrel kk j e; ⟨c, h1, get_pre hp' h2⟩).mp hv⟩
                    | kk + 2, hj1, e3 =>
                      have e' : js[kk]? = some j := by simpa using hj1
                      have hlt : kk < ps.length := by rw [hlen]; exact (List.getElem?_eq_some_iff.mp e').1
                      have hpk : ps[kk]? = some ps[kk] := List.getElem?_eq_getElem hlt
                      rw [hps kk j _ e' hpk] at ho; cases ho
                      obtain ⟨b', hb', items, nn, hob, hv⟩ := R'.h.obj (kk + 2) _ (by have := hsame (kk + 2) _ (osA_tup ps kk _ hpk); simpa using this)
                      rw [e3] at hb'; cases hb'
                      refine ⟨items, nn, hob, ?_⟩
                      match items, hv with
                      | [u, w], ⟨q1, q2, _⟩ => exact ⟨q1, q2, trivial⟩
                  obtain ⟨hbig, hfresh⟩ := R.big hsub R'.h hp' hpost
                  obtain ⟨f1, f2, f3⟩ := hfresh ae (List.mem_of_getElem? hae) hne
                  obtain ⟨ae', hae', items, hpl, hv⟩ := R'.h.obj e _ ge
                  rw [hae] at hae'; cases hae'
                  refine hP (.ref ae) (.ref H.n) (ρ ++ [ae]) ⟨H.t.put (.list (intsV es)) H.n, H.n.succ⟩ s' (List.prefix_append _ _) ⟨hbig.h.takeOn f1 f2 ⟨items, hpl, intsV_rel hv⟩, ?_⟩ (newRef R.h.len) h7
                  exact ⟨hbig.f.len, hbig.f.ok, fun i lc x e1 e2 hx => let ⟨v, hv, hr⟩ := hbig.f.has i lc x e1 e2 hx; ⟨v, hv, hr.mono (List.prefix_append _ _)⟩, hbig.f.apart,
                    fun lc h hm => by
                      rcases List.mem_append.mp hm with q | q
                      · exact hbig.f.nρ lc h q
                      · simp at q; exact f3 lc h q, hbig.f.n0⟩
                | _ => cases h10
          | _ => cases h3
      | _ => cases h3
  | [], _, _, h => exact absurd h Bool.false_ne_true
  | [_], _, _, h => exact absurd h Bool.false_ne_true
  | _ :: _ :: _ :: _, _, _, h => exact absurd h (by simp [fArg])
  | [_, .unb], _, _, h => exact absurd h Bool.false_ne_true
  | [_, .none], _, _, h => exact absurd h Bool.false_ne_true
  | [_, .bool _], _, _, h => exact absurd h Bool.false_ne_true
  | [_, .str _], _, _, h => exact absurd h Bool.false_ne_true
  | [_, .ref _], _, _, h => exact absurd h Bool.false_ne_true
  | [_, .int _], [], q, _ => exact q.elim
  | [_, .int _], [_], q, _ => exact q.2.elim
  | [_, .int _], _ :: _ :: _ :: _, q, _ => exact q.2.2.elim
/-- _law_apart(ties, x % 4) -/
theorem Ref.apart (lf : LawF W P) (p1 : P1) {e1 e2 : PySem.Expr} {F G : C} {kk : Nat} {p p4 p5 pos : Pos} (hx : Γ.sc.names.lookup ("_law_apart" : Str) = some .globalImplicit) (hn : 6 ≤ n) (h1 : Ref W n Γ e1 F) (h2 : Ref W n Γ e2 G)
    (hs : ∀ (rest : List PySem.Expr) (env : Env), starEach (e1 :: rest) env = (false, PySem.eval e1 env) :: starEach rest env) :
    Ref W n Γ (.Call (.Name "_law_apart" p) [e1, .BinOp e2 .Mod (.Constant (.int 4) kk p4) p5] [] pos) (cApartX F G) := by
  have h : Ref W n Γ (.Call (.Name "_law_apart" p) [e1, .BinOp e2 .Mod (.Constant (.int 4) kk p4) p5] [] pos) (cCall fArg [F, cOp2 oModI G (cVal (.int 4))]) :=
    Ref.callE hx (lf.mg "_law_apart" _ rfl) (fnAt__law_apart lf) (RefFn.lift (ref_fArg lf p1) hn) (.cons h1 hs (.cons (Ref.bin op_modI h2 Ref.int) (by intro _ _; rfl) .nil))
  intro A E s h₀ ρ φ env l H k Q hR hE R ev hP
  refine h A E s h₀ ρ φ env l H k Q hR hE R ?_ hP
  have eq : (fun (v : V) (h : Hp) => G l h fun w h => asInt w fun _ => apartT v h k) = fun (v : V) (h : Hp) => G l h fun w h => oModI w (.int 4) h fun y h => fArg [v, y] h k := by
    funext v h
    congr 1
    funext w h
    cases w with
    | int x =>
      have a0 : leZ 0 (x.fmod (Int.ofNat 4)) = true := (leZ_iff _ _).mpr (Int.fmod_nonneg_of_pos x (by decide))
      have a4 : ltZ (x.fmod (Int.ofNat 4)) 4 = true := (ltZ_iff _ _).mpr (Int.fmod_lt_of_pos x (by decide))
      show apartT v h k = chk (leZ 0 (x.fmod (Int.ofNat 4))) (chk (ltZ (x.fmod (Int.ofNat 4)) 4) (apartT v h k))
      rw [a0, a4]; rfl
    | _ => rfl
  have ev' : F l H (fun v h => G l h fun w h => asInt w fun _ => apartT v h k) = true := ev
  rw [eq] at ev'
  exact ev'
theorem QRef.apart (lf : LawF W P) (p1 : P1) {e1 e2 : PySem.Expr} {F G : C} {kk : Nat} {p p4 p5 pos : Pos} (hx : Γ.sc.names.lookup ("_law_apart" : Str) = some .globalImplicit) (hn : 6 ≤ n) (h1 : Box (Ref W n Γ e1 F)) (h2 : Box (Ref W n Γ e2 G))
    (hs : ∀ (rest : List PySem.Expr) (env : Env), starEach (e1 :: rest) env = (false, PySem.eval e1 env) :: starEach rest env := by intro _ _; kernel_rfl) :
    Box (Ref W n Γ (.Call (.Name "_law_apart" p) [e1, .BinOp e2 .Mod (.Constant (.int 4) kk p4) p5] [] pos) (cApartX F G)) := ⟨Ref.apart lf p1 hx hn h1.un h2.un hs⟩
end
end Mine
namespace Mine
open PySem PySem.W PyProof.Rows

/-- the script stands in the heap that the call finds -/
def ScrAt (W : Wd) (L : Nat) (ns : List Int) : Prop := ∃ items : List Value, W.hB.PlainList L items.toArray ∧ ∀ ρ, VRs ρ (mapL V.int ns) items
section
variable {W : Wd} {n : Nat} {Γ : Sc}
theorem IterOK.enumP {ρ₀ : List Addr} {L : Nat} {ns : List Int} {e it : Addr} (hs : ScrAt W L ns) (hne : e ≠ it) :
    IterOK W e [e, it] true ρ₀ (fun i _ c => match nthO ns i with | some x => c (some [.int (Int.ofNat i), .int x]) | .none => c .none) (fun i h => (∃ old, IsEnum h e it ((i : Nat) : Int) old) ∧ h.IsListIter it L i) where
  live i h x a hm := by
    obtain ⟨⟨old, x1⟩, o, e1, _⟩ := x
    rcases List.mem_cons.mp hm with rfl | hm
    · exact ⟨_, x1⟩
    · rw [List.mem_singleton] at hm; subst hm; exact ⟨o, e1⟩
  frame i h h' x hk := by
    obtain ⟨⟨old, x1⟩, o, e1, r⟩ := x
    exact ⟨⟨old, hk e (by simp) _ x1⟩, o, hk it (by simp) o e1, r⟩
  mono i H c c' hc h := by
    revert h
    cases q : nthO ns i with
    | none => exact fun h => hc _ h
    | some x => exact fun h => hc _ h
  self i A E s Q x h := by obtain ⟨⟨old, x1⟩, _⟩ := x; exact wpAny_pyIter_enum x1 h
  next i A E s h₀ ρ φ l H c Q hh hp R hv x hs' hend h1 h2 := by
    obtain ⟨⟨old, z1⟩, x2⟩ := x
    obtain ⟨items, hpl, hall⟩ := hs
    have hr := hall ρ
    rw [mapL_eq] at hr
    have hL := PlainList.isList (hpl.at fun o e => R.h.baseS _ o e)
    rw [nthO_eq] at hs'
    cases q : ns[i]? with
    | none =>
      rw [q] at hs'
      have hln := hr.len
      rw [List.length_map] at hln
      refine wpAny_pyNext_enum_end hh z1 x2 hL (by rw [List.getElem?_toArray]; rw [List.getElem?_eq_none_iff] at q ⊢; rw [← hln]; exact q) fun h' he => hend hs' _ (R.priv hv fun b o hb e => he b o (fun q => hb (by simp [q])) e)
    | some y =>
      rw [q] at hs'
      obtain ⟨v, hv1, hv2⟩ := hr.get (i := i) (x := .int y) (by rw [List.getElem?_map, q]; rfl)
      refine wpAny_pyNext_enum_item z1 x2 hL (by simpa using hv1) hne fun h' ho hi ht hz hk => ?_
      have R' : SR W φ h₀ ρ l H { s with heap := h', toks := s.toks + 1 } := (R.priv hv (s' := { s with heap := h' }) fun b o hb e => hk b o (fun q => hb (by simp [q])) (fun q => hb (by simp [q])) e).tok _
      refine h2 _ [.int i s.toks, v] _ _ rfl hs' ⟨⟨_, rfl⟩, hv2, trivial⟩ R' fun A' E' elts x1 pos Q' hQ' => ?_
      refine wpAny_letOwnedTupleGo_enum ho fun h'' he'' hs'' => hQ' _ (R'.priv hv fun b o hb e => hs''.extBut b o (fun q => hb (by simp [q])) e) ⟨0, hs''.extBut _ _ (fun q => ?_) ht⟩ ⟨⟨v, ?_⟩, hi.extBut hs''.extBut (Ne.symm hne)⟩
      · have : @LT.lt Nat _ e s.heap.objs.size := Heap.lt_size z1
        rw [q] at this
        exact Nat.lt_irrefl _ this
      · have e1 : ((i + 1 : Nat) : Int) = (i : Int) + 1 := by omega
        rw [e1]; exact he''
theorem RefIt.enumP {e : PySem.Expr} {F : C} {x : Str} {L : Nat} {ns : List Int} {p pos : Pos} (sc : ScrAt W L ns) (b : BiFn Γ x (.type "enumerate")) (he : Ref W n Γ e F) (hs : ∀ (rest : List PySem.Expr) (env : Env), starEach (e :: rest) env = (false, PySem.eval e env) :: starEach rest env := by intro _ _; rfl)
    (hf : ∀ (env : Env) (v : Value), foldedSetIterable (.Call (.Name x p) [e] [] pos) env v = pure v := by intro _ _; rfl) : RefIt W n Γ (.Call (.Name x p) [e] [] pos) true (iEnumP L ns F) where
  fold := hf
  run A E s h₀ ρ φ env l H k Q hR hE R h hP := by
    refine Call_type b (plain1 he hs) hR hE R (evs1 h) fun v x ρ₁ H₁ s₁ p₁ R₁ r₁ h₁ => ?_
    obtain ⟨a, w, rfl, rfl, r, h₂⟩ := one_of r₁ h₁
    cases a with
    | adr a =>
      cases (show w = .ref a from r)
      rcases rec_tt h₂ with ⟨h3, h4⟩ | ⟨_, h4⟩
      · have e := Nat.eq_of_beq_eq_true h3
        subst e
        obtain ⟨items, hpl, hall⟩ := sc
        refine call_enumerate_list (PlainList.isList (hpl.at fun o e => R₁.h.baseS _ o e)) fun h' he' hi' hz hk => ?_
        have R₂ : SR W φ h₀ ρ₁ l H₁ { s₁ with heap := h' } := R₁.ext hk
        have fr : PV [s₁.heap.objs.size + 1, s₁.heap.objs.size] φ h₀ ρ₁ := PV.fresh R₁ (by simp)
        refine wpAny_pyIter_enum (s := { s₁ with heap := h' }) he' ?_
        exact hP ρ₁ H₁ _ _ _ _ _ _ p₁ R₂ fr (IterOK.enumP ⟨items, hpl, hall⟩ (Nat.succ_ne_self _)) ⟨⟨_, he'⟩, hi'⟩ h4
      · cases h4
    | _ => exact absurd h₂ Bool.false_ne_true
theorem QRefIt.enumP {e : PySem.Expr} {F : C} {x : Str} {L : Nat} {ns : List Int} {p pos : Pos} (sc : ScrAt W L ns) (b : BiFn Γ x (.type "enumerate")) (he : Box (Ref W n Γ e F)) (hs : ∀ (rest : List PySem.Expr) (env : Env), starEach (e :: rest) env = (false, PySem.eval e env) :: starEach rest env := by intro _ _; kernel_rfl)
    (hf : ∀ (env : Env) (v : Value), foldedSetIterable (.Call (.Name x p) [e] [] pos) env v = pure v := by intro _ _; kernel_rfl) : RefIt W n Γ (.Call (.Name x p) [e] [] pos) true (iEnumP L ns F) := RefIt.enumP sc b he.un hs hf
end
end Mine
namespace Mine
noncomputable section
def f_cellsP (L : Nat) (ns : List Int) : Fn := fun args h k => chk (Nat.beq (lenL args) 1) (fDef 3 (sBlock [(sSet 1 (cList [(cVal (.int 43)), (cVal (.int 78))])), (sFor [2, 3] (iEnumP L ns (cVar 0)) (sBlock [(sSetL (cOp2 oAddI (cOp2 oItemL (cVar 1) (cOp2 oModI (cVar 2) (cVal (.int 2)))) (cVar 3)) (cVar 1) (cOp2 oModI (cVar 2) (cVal (.int 2))))])), (sRet (cVar 1))]) args h k)
def lawA0 (L : Nat) (ns : List Int) : S := (sSet 1 (cCall (f_cellsP L ns) [(cVar 0)]))
def lawA1 : S := (sSets [2, 3] [(cCall f__law_ties [(cOp2 oItemL (cVar 1) (cVal (.int 0)))]), (cCall f__law_names [(cOp2 oItemL (cVar 1) (cVal (.int 1)))])])
def lawA : List S := [(sSet 4 (cComp 2 [0] (iList (cVar 3)) (gElt (cM isStrB oJoin (cVal (.str [])) (cComp 2 [0] (iList (cVar 5)) (gElt (cCall f__law_sign [(cVar 2), (cVar 0)]))))))), (sSet 5 (cComp 2 [0] (iList (cM isStrB oSplit (cVal (.str [59, 32, 60, 32, 62, 32, 60, 60, 32, 62, 62])) (cVal (.str [32])))) (gElt (cOp1 (oGetG tokG) (cVar 0))))), (sIf (bOr (bC (cOp2 oNeD (cVar 4) (cList [(cVal (.str [61, 60, 60, 60])), (cVal (.str [62, 61, 60, 60])), (cVal (.str [62, 62, 61, 60])), (cVal (.str [62, 62, 62, 61]))]))) (bC (cOp2 oNeD (cVar 5) (cList [(cVal (.int 13)), (cVal (.int 20)), (cVal (.int 21)), (cVal (.int 33)), (cVal (.int 34))])))) (sBlock [(sRet (cVal (.bool false)))]) (sBlock []))]
def lawK : S := (sKeep [1, 2, 4] [0, 1, 9, 2, 3, 4, 5, 6, 7, 43])
def lawB : List S := [(sSet 6 (cComp 2 [0] (iRange (cVal (.int 4))) (gElt (cComp 2 [0] (iRange (cVal (.int 4))) (gIf (bOr (bC (cOp2 oInL (cTup [(cVar 2), (cVar 0)]) (cVar 6))) (bC (cOp2 oInL (cTup [(cVar 0), (cVar 2)]) (cVar 6)))) (gElt (cVar 0))))))), (sSets [7, 8] [(cCall f__law_orders []), (cList [])]), (sFor [9] (iList (cVar 7)) (sBlock [(sExpr (cM isListB oAppend (cVar 8) (cM isStrB oJoin (cVal (.str [])) (cComp 2 [0] (iRange (cVal (.int 4))) (gElt (cOp2 oAddS (cM isStrB oJoin (cVal (.str [])) (cComp 2 [0] (iList (cOp2 oItemL (cVar 8) (cVar 0))) (gElt (cOp2 oItemS (cOp2 oItemL (cVar 8) (cOp2 oItemL (cVar 13) (cVar 2))) (cOp2 oItemL (cVar 13) (cVar 0)))))) (cVal (.str [59]))))))))])), (sSet 10 (cCall f__law_counts [(cVar 8)])), (sFor [9, 11] (iZip (cVar 7) (cVar 8)) (sBlock [(sIf (bC (cOp2 oNeD (cOp2 oItemD (cVar 10) (cVar 11)) (cComp 2 [0] (iRange (cVal (.int 4))) (gElt (cOp1 oLenL (cComp 2 [0] (iList (cOp2 oItemL (cVar 8) (cVar 0))) (gIf (bC (cOp2 oLtI (cOp2 oItemL (cVar 13) (cVar 0)) (cOp2 oItemL (cVar 13) (cVar 2)))) (gElt (cVar 0))))))))) (sBlock [(sRet (cVal (.bool false)))]) (sBlock []))])), (sSet 8 (cOp1 oSorted (cVar 8))), (sSet 12 (cComp 2 [0] (iRange2 (cVal (.int 1)) (cVal (.int 24))) (gElt (cCall f__strcoll [(cOp2 oItemL (cVar 10) (cOp2 oSubI (cVar 0) (cVal (.int 1)))), (cOp2 oItemL (cVar 10) (cVar 0))])))), (sSet 13 (cOp2 oAddI (cVal (.int 1)) (cM isListB oCount (cVar 12) (cVal (.int (-1)))))), (sSet 14 (cApartX (cVar 2) (cOp2 oDivI (cOp2 oItemL (cVar 1) (cVal (.int 1))) (cVal (.int 30))))), (sIf (bOr (bC (cOp2 oNeI (cOp1 oLenL (cVar 14)) (cVal (.int 5)))) (bC (cOp2 oNeD (cList [(cVar 13), (cOp1 oLenD (cVar 10))]) (cList [(cOp1 oSum (cVar 14)), (cOp1 oSum (cVar 14))])))) (sBlock [(sRet (cVal (.bool false)))]) (sBlock [])), (sIf (bC (cOp2 oNeI (cOp1 oLenL (cComp 2 [0] (iList (cVar 12)) (gIf (bC (cCall f_ISEOF [(cVar 0)])) (gElt (cVar 0))))) (cOp2 oSubI (cVal (.int 24)) (cVar 13)))) (sBlock [(sRet (cVal (.bool false)))]) (sBlock [])), (sFor [15] (iRange (cVal (.int 4))) (sBlock [(sIf (bC (cOp2 oNeI (cOp1 oLenL (cComp 2 [0] (iVals (cVar 10)) (gIf (bAnd (bC (cCall f_ISEOF [(cOp2 oItemL (cVar 0) (cVar 17))])) (bC (cOp2 oEqI (cM isListB oCount (cVar 0) (cVal (.int 0))) (cVal (.int 1))))) (gElt (cVar 0))))) (cOp2 oItemL (cVar 14) (cVal (.int 1))))) (sBlock [(sRet (cVal (.bool false)))]) (sBlock []))])), (sIf (bNot (bC (cCall f__law_rising [(cOp1 oSorted (cComp 2 [0] (iVals (cVar 10)) (gElt (cM isStrB oJoin (cVal (.str [])) (cComp 2 [0] (iList (cVar 0)) (gElt (cOp2 oItemS (cVal (.str [48, 49, 50, 51])) (cVar 0))))))))]))) (sBlock [(sRet (cVal (.bool false)))]) (sBlock [])), (sSet 16 (cList [(cCall f__law_paints [(cVar 2), (cVal (.int 1))]), (cCall f__law_paints [(cVar 2), (cVal (.int 2))])])), (sRet (cOp2 oEqD (cVar 16) (cList [(cOp2 oSubI (cOp2 oAddI (cOp2 oSubI (cOp2 oItemL (cVar 14) (cVal (.int 4))) (cOp2 oItemL (cVar 14) (cVal (.int 3)))) (cOp2 oItemL (cVar 14) (cVal (.int 2)))) (cOp2 oItemL (cVar 14) (cVal (.int 1)))), (cOp2 oSubI (cOp2 oAddI (cOp2 oSubI (cOp2 oMulI (cVal (.int 16)) (cOp2 oItemL (cVar 14) (cVal (.int 4)))) (cOp2 oMulI (cVal (.int 8)) (cOp2 oItemL (cVar 14) (cVal (.int 3))))) (cOp2 oMulI (cVal (.int 4)) (cOp2 oItemL (cVar 14) (cVal (.int 2))))) (cOp2 oMulI (cVal (.int 2)) (cOp2 oItemL (cVar 14) (cVal (.int 1)))))])))]
def f_lawT (L : Nat) (ns : List Int) : Fn := fun args h k => chk (Nat.beq (lenL args) 1) (fDef 16 (sBlock [(sSet 1 (cCall (f_cellsP L ns) [(cVar 0)])), (sSets [2, 3] [(cCall f__law_ties [(cOp2 oItemL (cVar 1) (cVal (.int 0)))]), (cCall f__law_names [(cOp2 oItemL (cVar 1) (cVal (.int 1)))])]), (sSet 4 (cComp 2 [0] (iList (cVar 3)) (gElt (cM isStrB oJoin (cVal (.str [])) (cComp 2 [0] (iList (cVar 5)) (gElt (cCall f__law_sign [(cVar 2), (cVar 0)]))))))), (sSet 5 (cComp 2 [0] (iList (cM isStrB oSplit (cVal (.str [59, 32, 60, 32, 62, 32, 60, 60, 32, 62, 62])) (cVal (.str [32])))) (gElt (cOp1 (oGetG tokG) (cVar 0))))), (sIf (bOr (bC (cOp2 oNeD (cVar 4) (cList [(cVal (.str [61, 60, 60, 60])), (cVal (.str [62, 61, 60, 60])), (cVal (.str [62, 62, 61, 60])), (cVal (.str [62, 62, 62, 61]))]))) (bC (cOp2 oNeD (cVar 5) (cList [(cVal (.int 13)), (cVal (.int 20)), (cVal (.int 21)), (cVal (.int 33)), (cVal (.int 34))])))) (sBlock [(sRet (cVal (.bool false)))]) (sBlock [])), (sKeep [1, 2, 4] [0, 1, 9, 2, 3, 4, 5, 6, 7, 43]), (sSet 6 (cComp 2 [0] (iRange (cVal (.int 4))) (gElt (cComp 2 [0] (iRange (cVal (.int 4))) (gIf (bOr (bC (cOp2 oInL (cTup [(cVar 2), (cVar 0)]) (cVar 6))) (bC (cOp2 oInL (cTup [(cVar 0), (cVar 2)]) (cVar 6)))) (gElt (cVar 0))))))), (sSets [7, 8] [(cCall f__law_orders []), (cList [])]), (sFor [9] (iList (cVar 7)) (sBlock [(sExpr (cM isListB oAppend (cVar 8) (cM isStrB oJoin (cVal (.str [])) (cComp 2 [0] (iRange (cVal (.int 4))) (gElt (cOp2 oAddS (cM isStrB oJoin (cVal (.str [])) (cComp 2 [0] (iList (cOp2 oItemL (cVar 8) (cVar 0))) (gElt (cOp2 oItemS (cOp2 oItemL (cVar 8) (cOp2 oItemL (cVar 13) (cVar 2))) (cOp2 oItemL (cVar 13) (cVar 0)))))) (cVal (.str [59]))))))))])), (sSet 10 (cCall f__law_counts [(cVar 8)])), (sFor [9, 11] (iZip (cVar 7) (cVar 8)) (sBlock [(sIf (bC (cOp2 oNeD (cOp2 oItemD (cVar 10) (cVar 11)) (cComp 2 [0] (iRange (cVal (.int 4))) (gElt (cOp1 oLenL (cComp 2 [0] (iList (cOp2 oItemL (cVar 8) (cVar 0))) (gIf (bC (cOp2 oLtI (cOp2 oItemL (cVar 13) (cVar 0)) (cOp2 oItemL (cVar 13) (cVar 2)))) (gElt (cVar 0))))))))) (sBlock [(sRet (cVal (.bool false)))]) (sBlock []))])), (sSet 8 (cOp1 oSorted (cVar 8))), (sSet 12 (cComp 2 [0] (iRange2 (cVal (.int 1)) (cVal (.int 24))) (gElt (cCall f__strcoll [(cOp2 oItemL (cVar 10) (cOp2 oSubI (cVar 0) (cVal (.int 1)))), (cOp2 oItemL (cVar 10) (cVar 0))])))), (sSet 13 (cOp2 oAddI (cVal (.int 1)) (cM isListB oCount (cVar 12) (cVal (.int (-1)))))), (sSet 14 (cApartX (cVar 2) (cOp2 oDivI (cOp2 oItemL (cVar 1) (cVal (.int 1))) (cVal (.int 30))))), (sIf (bOr (bC (cOp2 oNeI (cOp1 oLenL (cVar 14)) (cVal (.int 5)))) (bC (cOp2 oNeD (cList [(cVar 13), (cOp1 oLenD (cVar 10))]) (cList [(cOp1 oSum (cVar 14)), (cOp1 oSum (cVar 14))])))) (sBlock [(sRet (cVal (.bool false)))]) (sBlock [])), (sIf (bC (cOp2 oNeI (cOp1 oLenL (cComp 2 [0] (iList (cVar 12)) (gIf (bC (cCall f_ISEOF [(cVar 0)])) (gElt (cVar 0))))) (cOp2 oSubI (cVal (.int 24)) (cVar 13)))) (sBlock [(sRet (cVal (.bool false)))]) (sBlock [])), (sFor [15] (iRange (cVal (.int 4))) (sBlock [(sIf (bC (cOp2 oNeI (cOp1 oLenL (cComp 2 [0] (iVals (cVar 10)) (gIf (bAnd (bC (cCall f_ISEOF [(cOp2 oItemL (cVar 0) (cVar 17))])) (bC (cOp2 oEqI (cM isListB oCount (cVar 0) (cVal (.int 0))) (cVal (.int 1))))) (gElt (cVar 0))))) (cOp2 oItemL (cVar 14) (cVal (.int 1))))) (sBlock [(sRet (cVal (.bool false)))]) (sBlock []))])), (sIf (bNot (bC (cCall f__law_rising [(cOp1 oSorted (cComp 2 [0] (iVals (cVar 10)) (gElt (cM isStrB oJoin (cVal (.str [])) (cComp 2 [0] (iList (cVar 0)) (gElt (cOp2 oItemS (cVal (.str [48, 49, 50, 51])) (cVar 0))))))))]))) (sBlock [(sRet (cVal (.bool false)))]) (sBlock [])), (sSet 16 (cList [(cCall f__law_paints [(cVar 2), (cVal (.int 1))]), (cCall f__law_paints [(cVar 2), (cVal (.int 2))])])), (sRet (cOp2 oEqD (cVar 16) (cList [(cOp2 oSubI (cOp2 oAddI (cOp2 oSubI (cOp2 oItemL (cVar 14) (cVal (.int 4))) (cOp2 oItemL (cVar 14) (cVal (.int 3)))) (cOp2 oItemL (cVar 14) (cVal (.int 2)))) (cOp2 oItemL (cVar 14) (cVal (.int 1)))), (cOp2 oSubI (cOp2 oAddI (cOp2 oSubI (cOp2 oMulI (cVal (.int 16)) (cOp2 oItemL (cVar 14) (cVal (.int 4)))) (cOp2 oMulI (cVal (.int 8)) (cOp2 oItemL (cVar 14) (cVal (.int 3))))) (cOp2 oMulI (cVal (.int 4)) (cOp2 oItemL (cVar 14) (cVal (.int 2))))) (cOp2 oMulI (cVal (.int 2)) (cOp2 oItemL (cVar 14) (cVal (.int 1)))))])))]) args h k)
end
end Mine
namespace Mine
open PySem PySem.W PyProof.Rows
section
variable {W : Wd} {P : Params}
theorem ref_cellsP (lf : LawF W P) {L : Nat} {ns : List Int} (sc : ScrAt W L ns) : RefFn W 2 157 (f_cellsP L ns) := by
  have hf : (kfrag.heap_1 P).lookup 157 = some ⟨.type "function", _, .func _, _⟩ := rfl
  refine QRefFn.of (n := 1) (Γ := ⟨_, [("script", 0), ("cells", 1), ("place", 2), ("number", 3)]⟩) (ns := ["script", "cells", "place", "number"]) (ps := ["script"]) (m := 3) ⟨⟨_, lf.af.X _ _ hf, rfl⟩, codeRec_of lf.af.X (by first | rfl | kernel_rfl), rfl, rfl, rfl⟩ rfl rfl
    ⟨by decide +kernel, by decide +kernel, by decide +kernel, by decide +kernel⟩ rfl rfl (fun vals hv => ?_)
    ?_ rfl rfl
  · match vals, hv with
    | [_], _ => rfl
  refine QRefS.cons ?_ ?_
  · refine QRef1.set (i := 1) ?_ (by decide +kernel) (hs := by intro _ _; kernel_rfl)
    refine QRef.list ?_ (hz := by decide +kernel)
    refine QRefs.cons ?_ (by intro _ _; kernel_rfl) ?_
    · exact QRef.int
    refine QRefs.cons ?_ (by intro _ _; kernel_rfl) ?_
    · exact QRef.int
    exact Refs.nil
  refine QRefS.cons ?_ ?_
  · refine QRef1.for ?_ (Tgt.many (NamesAt.cons (i := 2) (by decide +kernel) (by decide +kernel) (NamesAt.cons (i := 3) (by decide +kernel) (by decide +kernel) NamesAt.nil))) ?_
    · refine QRefIt.enumP sc (bi_enumerate (by decide +kernel)) ?_
      exact QRef.var (i := 0) (by decide +kernel)
    refine QRefS.cons ?_ ?_
    · refine QRef1.setL ?_ ?_ ?_
      · refine QRef.bin op_addI ?_ ?_
        · refine QRef.item op_itemL ?_ ?_
          · exact QRef.var (i := 1) (by decide +kernel)
          refine QRef.bin op_modI ?_ ?_
          · exact QRef.var (i := 2) (by decide +kernel)
          exact QRef.int
        exact QRef.var (i := 3) (by decide +kernel)
      · exact QRef.var (i := 1) (by decide +kernel)
      refine QRef.bin op_modI ?_ ?_
      · exact QRef.var (i := 2) (by decide +kernel)
      exact QRef.int
    exact QRefS.nil
  refine QRefS.cons ?_ ?_
  · refine QRef1.ret ?_
    exact QRef.var (i := 1) (by decide +kernel)
  exact QRefS.nil
theorem ref_lawT (lf : LawF W P) (p1 : P1) {L : Nat} {ns : List Int} (sc : ScrAt W L ns) : RefFn W 7 222 (f_lawT L ns) := by
  have hf : (kfrag.heap_1 P).lookup 222 = some ⟨.type "function", _, .func _, _⟩ := rfl
  refine QRefFn.of (n := 6) (Γ := ⟨_, [("script", 0), ("cells", 1), ("ties", 2), ("names", 3), ("signs", 4), ("numbers", 5), ("near", 6), ("orders", 7), ("pages", 8), ("order", 9), ("counts", 10), ("page", 11), ("answers", 12), ("unlike", 13), ("ends", 14), ("place", 15), ("paints", 16)]⟩) (ns := ["script", "cells", "ties", "names", "signs", "numbers", "near", "orders", "pages", "order", "counts", "page", "answers", "unlike", "ends", "place", "paints"]) (ps := ["script"]) (m := 16) ⟨⟨_, lf.af.X _ _ hf, rfl⟩, codeRec_of lf.af.X (by first | rfl | kernel_rfl), rfl, rfl, rfl⟩ rfl rfl
    ⟨by decide +kernel, by decide +kernel, by decide +kernel, by decide +kernel⟩ rfl rfl (fun vals hv => ?_)
    ?_ rfl rfl
  · match vals, hv with
    | [_], _ => rfl
  refine QRefS.cons ?_ ?_
  · refine QRef1.set (i := 1) ?_ (by decide +kernel) (hs := by intro _ _; kernel_rfl)
    refine QRef.callE (F := f_cellsP L ns) (by decide +kernel) (lf.mg "_law_cells" _ rfl) (fnAt__law_cells lf) (RefFn.lift (ref_cellsP lf sc) (by decide +kernel)) ?_
    refine QRefs.cons ?_ (by intro _ _; kernel_rfl) ?_
    · exact QRef.var (i := 0) (by decide +kernel)
    exact Refs.nil
  refine QRefS.cons ?_ ?_
  · refine QRef1.sets (is := [2, 3]) ?_ (NamesAt.cons (i := 2) (by decide +kernel) (by decide +kernel) (NamesAt.cons (i := 3) (by decide +kernel) (by decide +kernel) NamesAt.nil)) (hz := by decide +kernel) (hz' := by decide +kernel) (hw := (by intro env he; unfold swappedStores Env.blockKind Env.kindOf; rw [he]; rfl))
    refine QRefs.cons ?_ (by intro _ _; kernel_rfl) ?_
    · refine QRef.callE (F := f__law_ties) (by decide +kernel) (lf.mg "_law_ties" _ rfl) (fnAt__law_ties lf) (RefFn.lift (ref__law_ties lf) (by decide +kernel)) ?_
      refine QRefs.cons ?_ (by intro _ _; kernel_rfl) ?_
      · refine QRef.item op_itemL ?_ ?_
        · exact QRef.var (i := 1) (by decide +kernel)
        exact QRef.int
      exact Refs.nil
    refine QRefs.cons ?_ (by intro _ _; kernel_rfl) ?_
    · refine QRef.callE (F := f__law_names) (by decide +kernel) (lf.mg "_law_names" _ rfl) (fnAt__law_names lf) (RefFn.lift (ref__law_names lf) (by decide +kernel)) ?_
      refine QRefs.cons ?_ (by intro _ _; kernel_rfl) ?_
      · refine QRef.item op_itemL ?_ ?_
        · exact QRef.var (i := 1) (by decide +kernel)
        exact QRef.int
      exact Refs.nil
    exact Refs.nil
  refine QRefS.cons ?_ ?_
  · refine QRef1.set (i := 4) (QRef.comp (Γ' := ⟨_, [("one", 0), ("names", 5)]⟩) (own := ["one"]) (g := (gElt (cM isStrB oJoin (cVal (.str [])) (cComp 2 [0] (iList (cVar 5)) (gElt (cCall f__law_sign [(cVar 2), (cVar 0)])))))) ⟨rfl, rfl, (by decide +kernel), (by decide +kernel), (by decide +kernel), (by decide +kernel), (by decide +kernel), (by decide +kernel)⟩ rfl IsLoop.last1 ?_ (Tgt.one (i := 0) (by decide +kernel) (by decide +kernel)) ?_ ?_) (by decide +kernel) (hs := (by intro env he; unfold swapsWith Env.blockKind Env.kindOf; rw [he]; rfl))
    · refine QRefIt.list ?_
      exact QRef.var (i := 3) (by decide +kernel)
    · exact RefI.nil
    refine QRefA.elt ?_
    refine QRef.meth meth_join tells_str op_join ?_ ?_
    · exact QRef.str (t := [])
    refine QRef.comp (Γ' := ⟨_, [("other", 0), ("one", 2)]⟩) (own := ["other"]) (g := (gElt (cCall f__law_sign [(cVar 2), (cVar 0)]))) ⟨rfl, rfl, (by decide +kernel), (by decide +kernel), (by decide +kernel), (by decide +kernel), (by decide +kernel), (by decide +kernel)⟩ rfl IsLoop.last1 ?_ (Tgt.one (i := 0) (by decide +kernel) (by decide +kernel)) ?_ ?_
    · refine QRefIt.list ?_
      exact QRef.var (i := 5) (by decide +kernel)
    · exact RefI.nil
    refine QRefA.elt ?_
    refine QRef.callE (F := f__law_sign) (by decide +kernel) (lf.mg "_law_sign" _ rfl) (fnAt__law_sign lf) (RefFn.lift (ref__law_sign lf) (by decide +kernel)) ?_
    refine QRefs.cons ?_ (by intro _ _; kernel_rfl) ?_
    · exact QRef.var (i := 2) (by decide +kernel)
    refine QRefs.cons ?_ (by intro _ _; kernel_rfl) ?_
    · exact QRef.var (i := 0) (by decide +kernel)
    exact Refs.nil
  refine QRefS.cons ?_ ?_
  · refine QRef1.setComp (i := 5) (Γ' := ⟨_, [("word", 0)]⟩) (own := ["word"]) (g := (gElt (cOp1 (oGetG tokG) (cVar 0)))) ⟨rfl, rfl, (by decide +kernel), (by decide +kernel), (by decide +kernel), (by decide +kernel), (by decide +kernel), (by decide +kernel)⟩ rfl IsLoop.last1 ?_ (Tgt.one (i := 0) (by decide +kernel) (by decide +kernel)) ?_ ?_ (by decide +kernel) (by decide +kernel) (by intro env he; unfold swapsWith Env.blockKind Env.kindOf; rw [he]; rfl)
    · refine QRefIt.list ?_
      refine QRef.meth meth_split tells_str op_split ?_ ?_
      · exact QRef.str (t := [59, 32, 60, 32, 62, 32, 60, 60, 32, 62, 62])
      exact QRef.str (t := [32])
    · exact RefI.nil
    refine QRefA.elt ?_
    refine QRef.getG lf.tok (by decide +kernel) ?_
    exact QRef.var (i := 0) (by decide +kernel)
  refine QRefS.cons ?_ ?_
  · refine QRef1.cond ?_ ?_ ?_
    · refine QRefB.or ?_ ?_
      · refine QRefB.cmp op_neD ?_ ?_
        · exact QRef.var (i := 4) (by decide +kernel)
        refine QRef.list ?_ (hz := by decide +kernel)
        refine QRefs.cons ?_ (by intro _ _; kernel_rfl) ?_
        · exact QRef.str (t := [61, 60, 60, 60])
        refine QRefs.cons ?_ (by intro _ _; kernel_rfl) ?_
        · exact QRef.str (t := [62, 61, 60, 60])
        refine QRefs.cons ?_ (by intro _ _; kernel_rfl) ?_
        · exact QRef.str (t := [62, 62, 61, 60])
        refine QRefs.cons ?_ (by intro _ _; kernel_rfl) ?_
        · exact QRef.str (t := [62, 62, 62, 61])
        exact Refs.nil
      refine QRefB.cmp op_neD ?_ ?_
      · exact QRef.var (i := 5) (by decide +kernel)
      refine QRef.list ?_ (hz := by decide +kernel)
      refine QRefs.cons ?_ (by intro _ _; kernel_rfl) ?_
      · exact QRef.int
      refine QRefs.cons ?_ (by intro _ _; kernel_rfl) ?_
      · exact QRef.int
      refine QRefs.cons ?_ (by intro _ _; kernel_rfl) ?_
      · exact QRef.int
      refine QRefs.cons ?_ (by intro _ _; kernel_rfl) ?_
      · exact QRef.int
      refine QRefs.cons ?_ (by intro _ _; kernel_rfl) ?_
      · exact QRef.int
      exact Refs.nil
    · refine QRefS.cons ?_ ?_
      · refine QRef1.ret ?_
        exact QRef.bool
      exact QRefS.nil
    exact QRefS.nil
  refine QRefS.keep ?_
  refine QRefS.cons ?_ ?_
  · refine QRef1.set (i := 6) (QRef.comp (Γ' := ⟨_, [("place", 0), ("ties", 4)]⟩) (own := ["place"]) (g := (gElt (cComp 2 [0] (iRange (cVal (.int 4))) (gIf (bOr (bC (cOp2 oInL (cTup [(cVar 2), (cVar 0)]) (cVar 6))) (bC (cOp2 oInL (cTup [(cVar 0), (cVar 2)]) (cVar 6)))) (gElt (cVar 0)))))) ⟨rfl, rfl, (by decide +kernel), (by decide +kernel), (by decide +kernel), (by decide +kernel), (by decide +kernel), (by decide +kernel)⟩ rfl IsLoop.last1 ?_ (Tgt.one (i := 0) (by decide +kernel) (by decide +kernel)) ?_ ?_) (by decide +kernel) (hs := (by intro env he; unfold swapsWith Env.blockKind Env.kindOf; rw [he]; rfl))
    · refine QRefIt.range (bi_range (by decide +kernel)) ?_
      exact QRef.int
    · exact RefI.nil
    refine QRefA.elt ?_
    refine QRef.comp (Γ' := ⟨_, [("other", 0), ("place", 2), ("ties", 6)]⟩) (own := ["other"]) (g := (gElt (cVar 0))) ⟨rfl, rfl, (by decide +kernel), (by decide +kernel), (by decide +kernel), (by decide +kernel), (by decide +kernel), (by decide +kernel)⟩ rfl IsLoop.last1 ?_ (Tgt.one (i := 0) (by decide +kernel) (by decide +kernel)) ?_ ?_
    · refine QRefIt.range (bi_range (by decide +kernel)) ?_
      exact QRef.int
    · refine QRefI.one ?_
      refine QRefB.or ?_ ?_
      · refine QRefB.cmp op_inL ?_ ?_
        · refine QRef.tup ?_
          refine QRefs.cons ?_ (by intro _ _; kernel_rfl) ?_
          · exact QRef.var (i := 2) (by decide +kernel)
          refine QRefs.cons ?_ (by intro _ _; kernel_rfl) ?_
          · exact QRef.var (i := 0) (by decide +kernel)
          exact Refs.nil
        exact QRef.var (i := 6) (by decide +kernel)
      refine QRefB.cmp op_inL ?_ ?_
      · refine QRef.tup ?_
        refine QRefs.cons ?_ (by intro _ _; kernel_rfl) ?_
        · exact QRef.var (i := 0) (by decide +kernel)
        refine QRefs.cons ?_ (by intro _ _; kernel_rfl) ?_
        · exact QRef.var (i := 2) (by decide +kernel)
        exact Refs.nil
      exact QRef.var (i := 6) (by decide +kernel)
    refine QRefA.elt ?_
    exact QRef.var (i := 0) (by decide +kernel)
  refine QRefS.cons ?_ ?_
  · refine QRef1.sets (is := [7, 8]) ?_ (NamesAt.cons (i := 7) (by decide +kernel) (by decide +kernel) (NamesAt.cons (i := 8) (by decide +kernel) (by decide +kernel) NamesAt.nil)) (hz := by decide +kernel) (hz' := by decide +kernel) (hw := (by intro env he; unfold swappedStores Env.blockKind Env.kindOf; rw [he]; rfl))
    refine QRefs.cons ?_ (by intro _ _; kernel_rfl) ?_
    · refine QRef.callE (F := f__law_orders) (by decide +kernel) (lf.mg "_law_orders" _ rfl) (fnAt__law_orders lf) (RefFn.lift (ref__law_orders lf) (by decide +kernel)) ?_
      exact Refs.nil
    refine QRefs.cons ?_ (by intro _ _; kernel_rfl) ?_
    · refine QRef.list ?_ (hz := by decide +kernel)
      exact Refs.nil
    exact Refs.nil
  refine QRefS.cons ?_ ?_
  · refine QRef1.for ?_ (Tgt.one (i := 9) (by decide +kernel) (by decide +kernel)) ?_
    · refine QRefIt.list ?_
      exact QRef.var (i := 7) (by decide +kernel)
    refine QRefS.cons ?_ ?_
    · refine QRef1.expr ?_
      refine QRef.meth meth_append tells_list op_append ?_ ?_
      · exact QRef.var (i := 8) (by decide +kernel)
      refine QRef.meth meth_join tells_str op_join ?_ ?_
      · exact QRef.str (t := [])
      refine QRef.comp (Γ' := ⟨_, [("place", 0), ("near", 8), ("order", 11), ("signs", 6)]⟩) (own := ["place"]) (g := (gElt (cOp2 oAddS (cM isStrB oJoin (cVal (.str [])) (cComp 2 [0] (iList (cOp2 oItemL (cVar 8) (cVar 0))) (gElt (cOp2 oItemS (cOp2 oItemL (cVar 8) (cOp2 oItemL (cVar 13) (cVar 2))) (cOp2 oItemL (cVar 13) (cVar 0)))))) (cVal (.str [59]))))) ⟨rfl, rfl, (by decide +kernel), (by decide +kernel), (by decide +kernel), (by decide +kernel), (by decide +kernel), (by decide +kernel)⟩ rfl IsLoop.last1 ?_ (Tgt.one (i := 0) (by decide +kernel) (by decide +kernel)) ?_ ?_
      · refine QRefIt.range (bi_range (by decide +kernel)) ?_
        exact QRef.int
      · exact RefI.nil
      refine QRefA.elt ?_
      refine QRef.bin op_addS ?_ ?_
      · refine QRef.meth meth_join tells_str op_join ?_ ?_
        · exact QRef.str (t := [])
        refine QRef.comp (Γ' := ⟨_, [("other", 0), ("order", 13), ("place", 2), ("signs", 8)]⟩) (own := ["other"]) (g := (gElt (cOp2 oItemS (cOp2 oItemL (cVar 8) (cOp2 oItemL (cVar 13) (cVar 2))) (cOp2 oItemL (cVar 13) (cVar 0))))) ⟨rfl, rfl, (by decide +kernel), (by decide +kernel), (by decide +kernel), (by decide +kernel), (by decide +kernel), (by decide +kernel)⟩ rfl IsLoop.last1 ?_ (Tgt.one (i := 0) (by decide +kernel) (by decide +kernel)) ?_ ?_
        · refine QRefIt.list ?_
          refine QRef.item op_itemL ?_ ?_
          · exact QRef.var (i := 8) (by decide +kernel)
          exact QRef.var (i := 0) (by decide +kernel)
        · exact RefI.nil
        refine QRefA.elt ?_
        refine QRef.item op_itemS ?_ ?_
        · refine QRef.item op_itemL ?_ ?_
          · exact QRef.var (i := 8) (by decide +kernel)
          refine QRef.item op_itemL ?_ ?_
          · exact QRef.var (i := 13) (by decide +kernel)
          exact QRef.var (i := 2) (by decide +kernel)
        refine QRef.item op_itemL ?_ ?_
        · exact QRef.var (i := 13) (by decide +kernel)
        exact QRef.var (i := 0) (by decide +kernel)
      exact QRef.str (t := [59])
    exact QRefS.nil
  refine QRefS.cons ?_ ?_
  · refine QRef1.set (i := 10) ?_ (by decide +kernel) (hs := by intro _ _; kernel_rfl)
    refine QRef.callE (F := f__law_counts) (by decide +kernel) (lf.mg "_law_counts" _ rfl) (fnAt__law_counts lf) (RefFn.lift (ref__law_counts lf) (by decide +kernel)) ?_
    refine QRefs.cons ?_ (by intro _ _; kernel_rfl) ?_
    · exact QRef.var (i := 8) (by decide +kernel)
    exact Refs.nil
  refine QRefS.cons ?_ ?_
  · refine QRef1.for ?_ (Tgt.many (NamesAt.cons (i := 9) (by decide +kernel) (by decide +kernel) (NamesAt.cons (i := 11) (by decide +kernel) (by decide +kernel) NamesAt.nil))) ?_
    · refine QRefIt.zip (bi_zip (by decide +kernel)) ?_ ?_
      · exact QRef.var (i := 7) (by decide +kernel)
      exact QRef.var (i := 8) (by decide +kernel)
    refine QRefS.cons ?_ ?_
    · refine QRef1.cond ?_ ?_ ?_
      · refine QRefB.cmp op_neD ?_ ?_
        · refine QRef.item op_itemD ?_ ?_
          · exact QRef.var (i := 10) (by decide +kernel)
          exact QRef.var (i := 11) (by decide +kernel)
        refine QRef.comp (Γ' := ⟨_, [("place", 0), ("near", 8), ("order", 11)]⟩) (own := ["place"]) (g := (gElt (cOp1 oLenL (cComp 2 [0] (iList (cOp2 oItemL (cVar 8) (cVar 0))) (gIf (bC (cOp2 oLtI (cOp2 oItemL (cVar 13) (cVar 0)) (cOp2 oItemL (cVar 13) (cVar 2)))) (gElt (cVar 0))))))) ⟨rfl, rfl, (by decide +kernel), (by decide +kernel), (by decide +kernel), (by decide +kernel), (by decide +kernel), (by decide +kernel)⟩ rfl IsLoop.last1 ?_ (Tgt.one (i := 0) (by decide +kernel) (by decide +kernel)) ?_ ?_
        · refine QRefIt.range (bi_range (by decide +kernel)) ?_
          exact QRef.int
        · exact RefI.nil
        refine QRefA.elt ?_
        refine QRef.bi1 (bi_len (by decide +kernel)) op_lenL ?_
        refine QRef.comp (Γ' := ⟨_, [("other", 0), ("order", 13), ("place", 2)]⟩) (own := ["other"]) (g := (gElt (cVar 0))) ⟨rfl, rfl, (by decide +kernel), (by decide +kernel), (by decide +kernel), (by decide +kernel), (by decide +kernel), (by decide +kernel)⟩ rfl IsLoop.last1 ?_ (Tgt.one (i := 0) (by decide +kernel) (by decide +kernel)) ?_ ?_
        · refine QRefIt.list ?_
          refine QRef.item op_itemL ?_ ?_
          · exact QRef.var (i := 8) (by decide +kernel)
          exact QRef.var (i := 0) (by decide +kernel)
        · refine QRefI.one ?_
          refine QRefB.cmp op_ltI ?_ ?_
          · refine QRef.item op_itemL ?_ ?_
            · exact QRef.var (i := 13) (by decide +kernel)
            exact QRef.var (i := 0) (by decide +kernel)
          refine QRef.item op_itemL ?_ ?_
          · exact QRef.var (i := 13) (by decide +kernel)
          exact QRef.var (i := 2) (by decide +kernel)
        refine QRefA.elt ?_
        exact QRef.var (i := 0) (by decide +kernel)
      · refine QRefS.cons ?_ ?_
        · refine QRef1.ret ?_
          exact QRef.bool
        exact QRefS.nil
      exact QRefS.nil
    exact QRefS.nil
  refine QRefS.cons ?_ ?_
  · refine QRef1.set (i := 8) ?_ (by decide +kernel) (hs := by intro _ _; kernel_rfl)
    refine QRef.sorted (bi_sorted (by decide +kernel)) (by decide +kernel) (lf.mg "_strxfrm" _ rfl) (RefFn.lift (ref__strxfrm lf) (by decide +kernel)) id_strxfrm ?_
    exact QRef.var (i := 8) (by decide +kernel)
  refine QRefS.cons ?_ ?_
  · refine QRef1.setComp (i := 12) (Γ' := ⟨_, [("k", 0), ("pages", 10)]⟩) (own := ["k"]) (g := (gElt (cCall f__strcoll [(cOp2 oItemL (cVar 10) (cOp2 oSubI (cVar 0) (cVal (.int 1)))), (cOp2 oItemL (cVar 10) (cVar 0))]))) ⟨rfl, rfl, (by decide +kernel), (by decide +kernel), (by decide +kernel), (by decide +kernel), (by decide +kernel), (by decide +kernel)⟩ rfl IsLoop.last1 ?_ (Tgt.one (i := 0) (by decide +kernel) (by decide +kernel)) ?_ ?_ (by decide +kernel) (by decide +kernel) (by intro env he; unfold swapsWith Env.blockKind Env.kindOf; rw [he]; rfl)
    · refine QRefIt.range2 (bi_range (by decide +kernel)) ?_ ?_
      · exact QRef.int
      exact QRef.int
    · exact RefI.nil
    refine QRefA.elt ?_
    refine QRef.callE (F := f__strcoll) (by decide +kernel) (lf.mg "_strcoll" _ rfl) (fnAt__strcoll lf) (RefFn.lift (ref__strcoll lf) (by decide +kernel)) ?_
    refine QRefs.cons ?_ (by intro _ _; kernel_rfl) ?_
    · refine QRef.item op_itemL ?_ ?_
      · exact QRef.var (i := 10) (by decide +kernel)
      refine QRef.bin op_subI ?_ ?_
      · exact QRef.var (i := 0) (by decide +kernel)
      exact QRef.int
    refine QRefs.cons ?_ (by intro _ _; kernel_rfl) ?_
    · refine QRef.item op_itemL ?_ ?_
      · exact QRef.var (i := 10) (by decide +kernel)
      exact QRef.var (i := 0) (by decide +kernel)
    exact Refs.nil
  refine QRefS.cons ?_ ?_
  · refine QRef1.set (i := 13) ?_ (by decide +kernel) (hs := by intro _ _; kernel_rfl)
    refine QRef.bin op_addI ?_ ?_
    · exact QRef.int
    refine QRef.meth meth_count tells_list op_count ?_ ?_
    · exact QRef.var (i := 12) (by decide +kernel)
    exact QRef.neg (j := -1)
  refine QRefS.cons ?_ ?_
  · refine QRef1.set (i := 14) ?_ (by decide +kernel) (hs := by intro _ _; kernel_rfl)
    refine QRef.apart lf p1 (by decide +kernel) (by decide) ?_ ?_
    · exact QRef.var (i := 2) (by decide +kernel)
    refine QRef.bin op_divI ?_ ?_
    · refine QRef.item op_itemL ?_ ?_
      · exact QRef.var (i := 1) (by decide +kernel)
      exact QRef.int
    exact QRef.int
  refine QRefS.cons ?_ ?_
  · refine QRef1.cond ?_ ?_ ?_
    · refine QRefB.or ?_ ?_
      · refine QRefB.cmp op_neI ?_ ?_
        · refine QRef.bi1 (bi_len (by decide +kernel)) op_lenL ?_
          exact QRef.var (i := 14) (by decide +kernel)
        exact QRef.int
      refine QRefB.cmp op_neD ?_ ?_
      · refine QRef.list ?_ (hz := by decide +kernel)
        refine QRefs.cons ?_ (by intro _ _; kernel_rfl) ?_
        · exact QRef.var (i := 13) (by decide +kernel)
        refine QRefs.cons ?_ (by intro _ _; kernel_rfl) ?_
        · refine QRef.bi1 (bi_len (by decide +kernel)) op_lenD ?_
          exact QRef.var (i := 10) (by decide +kernel)
        exact Refs.nil
      refine QRef.list ?_ (hz := by decide +kernel)
      refine QRefs.cons ?_ (by intro _ _; kernel_rfl) ?_
      · refine QRef.bi1 (bi_sum (by decide +kernel)) op_sum ?_
        exact QRef.var (i := 14) (by decide +kernel)
      refine QRefs.cons ?_ (by intro _ _; kernel_rfl) ?_
      · refine QRef.bi1 (bi_sum (by decide +kernel)) op_sum ?_
        exact QRef.var (i := 14) (by decide +kernel)
      exact Refs.nil
    · refine QRefS.cons ?_ ?_
      · refine QRef1.ret ?_
        exact QRef.bool
      exact QRefS.nil
    exact QRefS.nil
  refine QRefS.cons ?_ ?_
  · refine QRef1.cond ?_ ?_ ?_
    · refine QRefB.cmp op_neI ?_ ?_
      · refine QRef.bi1 (bi_len (by decide +kernel)) op_lenL ?_
        refine QRef.comp (Γ' := ⟨_, [("answer", 0)]⟩) (own := ["answer"]) (g := (gElt (cVar 0))) ⟨rfl, rfl, (by decide +kernel), (by decide +kernel), (by decide +kernel), (by decide +kernel), (by decide +kernel), (by decide +kernel)⟩ rfl IsLoop.last1 ?_ (Tgt.one (i := 0) (by decide +kernel) (by decide +kernel)) ?_ ?_
        · refine QRefIt.list ?_
          exact QRef.var (i := 12) (by decide +kernel)
        · refine QRefI.one ?_
          refine QRefB.val ?_
          refine QRef.callE (F := f_ISEOF) (by decide +kernel) (lf.mg "ISEOF" _ rfl) (fnAt_ISEOF lf) (RefFn.lift (ref_ISEOF lf) (by decide +kernel)) ?_
          refine QRefs.cons ?_ (by intro _ _; kernel_rfl) ?_
          · exact QRef.var (i := 0) (by decide +kernel)
          exact Refs.nil
        refine QRefA.elt ?_
        exact QRef.var (i := 0) (by decide +kernel)
      refine QRef.bin op_subI ?_ ?_
      · exact QRef.int
      exact QRef.var (i := 13) (by decide +kernel)
    · refine QRefS.cons ?_ ?_
      · refine QRef1.ret ?_
        exact QRef.bool
      exact QRefS.nil
    exact QRefS.nil
  refine QRefS.cons ?_ ?_
  · refine QRef1.for ?_ (Tgt.one (i := 15) (by decide +kernel) (by decide +kernel)) ?_
    · refine QRefIt.range (bi_range (by decide +kernel)) ?_
      exact QRef.int
    refine QRefS.cons ?_ ?_
    · refine QRef1.cond ?_ ?_ ?_
      · refine QRefB.cmp op_neI ?_ ?_
        · refine QRef.bi1 (bi_len (by decide +kernel)) op_lenL ?_
          refine QRef.comp (Γ' := ⟨_, [("row", 0), ("place", 17)]⟩) (own := ["row"]) (g := (gElt (cVar 0))) ⟨rfl, rfl, (by decide +kernel), (by decide +kernel), (by decide +kernel), (by decide +kernel), (by decide +kernel), (by decide +kernel)⟩ rfl IsLoop.last1 ?_ (Tgt.one (i := 0) (by decide +kernel) (by decide +kernel)) ?_ ?_
          · refine QRefIt.vals ?_
            exact QRef.var (i := 10) (by decide +kernel)
          · refine QRefI.one ?_
            refine QRefB.and ?_ ?_
            · refine QRefB.val ?_
              refine QRef.callE (F := f_ISEOF) (by decide +kernel) (lf.mg "ISEOF" _ rfl) (fnAt_ISEOF lf) (RefFn.lift (ref_ISEOF lf) (by decide +kernel)) ?_
              refine QRefs.cons ?_ (by intro _ _; kernel_rfl) ?_
              · refine QRef.item op_itemL ?_ ?_
                · exact QRef.var (i := 0) (by decide +kernel)
                exact QRef.var (i := 17) (by decide +kernel)
              exact Refs.nil
            refine QRefB.cmp op_eqI ?_ ?_
            · refine QRef.meth meth_count tells_list op_count ?_ ?_
              · exact QRef.var (i := 0) (by decide +kernel)
              exact QRef.int
            exact QRef.int
          refine QRefA.elt ?_
          exact QRef.var (i := 0) (by decide +kernel)
        refine QRef.item op_itemL ?_ ?_
        · exact QRef.var (i := 14) (by decide +kernel)
        exact QRef.int
      · refine QRefS.cons ?_ ?_
        · refine QRef1.ret ?_
          exact QRef.bool
        exact QRefS.nil
      exact QRefS.nil
    exact QRefS.nil
  refine QRefS.cons ?_ ?_
  · refine QRef1.cond ?_ ?_ ?_
    · refine QRefB.not ?_
      refine QRefB.val ?_
      refine QRef.callE (F := f__law_rising) (by decide +kernel) (lf.mg "_law_rising" _ rfl) (fnAt__law_rising lf) (RefFn.lift (ref__law_rising lf) (by decide +kernel)) ?_
      refine QRefs.cons ?_ (by intro _ _; kernel_rfl) ?_
      · refine QRef.sorted (bi_sorted (by decide +kernel)) (by decide +kernel) (lf.mg "_strxfrm" _ rfl) (RefFn.lift (ref__strxfrm lf) (by decide +kernel)) id_strxfrm ?_
        refine QRef.comp (Γ' := ⟨_, [("row", 0)]⟩) (own := ["row"]) (g := (gElt (cM isStrB oJoin (cVal (.str [])) (cComp 2 [0] (iList (cVar 0)) (gElt (cOp2 oItemS (cVal (.str [48, 49, 50, 51])) (cVar 0))))))) ⟨rfl, rfl, (by decide +kernel), (by decide +kernel), (by decide +kernel), (by decide +kernel), (by decide +kernel), (by decide +kernel)⟩ rfl IsLoop.last1 ?_ (Tgt.one (i := 0) (by decide +kernel) (by decide +kernel)) ?_ ?_
        · refine QRefIt.vals ?_
          exact QRef.var (i := 10) (by decide +kernel)
        · exact RefI.nil
        refine QRefA.elt ?_
        refine QRef.meth meth_join tells_str op_join ?_ ?_
        · exact QRef.str (t := [])
        refine QRef.comp (Γ' := ⟨_, [("count", 0)]⟩) (own := ["count"]) (g := (gElt (cOp2 oItemS (cVal (.str [48, 49, 50, 51])) (cVar 0)))) ⟨rfl, rfl, (by decide +kernel), (by decide +kernel), (by decide +kernel), (by decide +kernel), (by decide +kernel), (by decide +kernel)⟩ rfl IsLoop.last1 ?_ (Tgt.one (i := 0) (by decide +kernel) (by decide +kernel)) ?_ ?_
        · refine QRefIt.list ?_
          exact QRef.var (i := 0) (by decide +kernel)
        · exact RefI.nil
        refine QRefA.elt ?_
        refine QRef.item op_itemS ?_ ?_
        · exact QRef.str (t := [48, 49, 50, 51])
        exact QRef.var (i := 0) (by decide +kernel)
      exact Refs.nil
    · refine QRefS.cons ?_ ?_
      · refine QRef1.ret ?_
        exact QRef.bool
      exact QRefS.nil
    exact QRefS.nil
  refine QRefS.cons ?_ ?_
  · refine QRef1.set (i := 16) ?_ (by decide +kernel) (hs := by intro _ _; kernel_rfl)
    refine QRef.list ?_ (hz := by decide +kernel)
    refine QRefs.cons ?_ (by intro _ _; kernel_rfl) ?_
    · refine QRef.callE (F := f__law_paints) (by decide +kernel) (lf.mg "_law_paints" _ rfl) (fnAt__law_paints lf) (RefFn.lift (ref__law_paints lf) (by decide +kernel)) ?_
      refine QRefs.cons ?_ (by intro _ _; kernel_rfl) ?_
      · exact QRef.var (i := 2) (by decide +kernel)
      refine QRefs.cons ?_ (by intro _ _; kernel_rfl) ?_
      · exact QRef.int
      exact Refs.nil
    refine QRefs.cons ?_ (by intro _ _; kernel_rfl) ?_
    · refine QRef.callE (F := f__law_paints) (by decide +kernel) (lf.mg "_law_paints" _ rfl) (fnAt__law_paints lf) (RefFn.lift (ref__law_paints lf) (by decide +kernel)) ?_
      refine QRefs.cons ?_ (by intro _ _; kernel_rfl) ?_
      · exact QRef.var (i := 2) (by decide +kernel)
      refine QRefs.cons ?_ (by intro _ _; kernel_rfl) ?_
      · exact QRef.int
      exact Refs.nil
    exact Refs.nil
  refine QRefS.cons ?_ ?_
  · refine QRef1.ret ?_
    refine QRef.cmp op_eqD ?_ ?_
    · exact QRef.var (i := 16) (by decide +kernel)
    refine QRef.list ?_ (hz := by decide +kernel)
    refine QRefs.cons ?_ (by intro _ _; kernel_rfl) ?_
    · refine QRef.bin op_subI ?_ ?_
      · refine QRef.bin op_addI ?_ ?_
        · refine QRef.bin op_subI ?_ ?_
          · refine QRef.item op_itemL ?_ ?_
            · exact QRef.var (i := 14) (by decide +kernel)
            exact QRef.int
          refine QRef.item op_itemL ?_ ?_
          · exact QRef.var (i := 14) (by decide +kernel)
          exact QRef.int
        refine QRef.item op_itemL ?_ ?_
        · exact QRef.var (i := 14) (by decide +kernel)
        exact QRef.int
      refine QRef.item op_itemL ?_ ?_
      · exact QRef.var (i := 14) (by decide +kernel)
      exact QRef.int
    refine QRefs.cons ?_ (by intro _ _; kernel_rfl) ?_
    · refine QRef.bin op_subI ?_ ?_
      · refine QRef.bin op_addI ?_ ?_
        · refine QRef.bin op_subI ?_ ?_
          · refine QRef.bin op_mulI ?_ ?_
            · exact QRef.int
            refine QRef.item op_itemL ?_ ?_
            · exact QRef.var (i := 14) (by decide +kernel)
            exact QRef.int
          refine QRef.bin op_mulI ?_ ?_
          · exact QRef.int
          refine QRef.item op_itemL ?_ ?_
          · exact QRef.var (i := 14) (by decide +kernel)
          exact QRef.int
        refine QRef.bin op_mulI ?_ ?_
        · exact QRef.int
        refine QRef.item op_itemL ?_ ?_
        · exact QRef.var (i := 14) (by decide +kernel)
        exact QRef.int
      refine QRef.bin op_mulI ?_ ?_
      · exact QRef.int
      refine QRef.item op_itemL ?_ ?_
      · exact QRef.var (i := 14) (by decide +kernel)
      exact QRef.int
    exact Refs.nil
  exact QRefS.nil
end
end Mine
namespace Mine
open PySem
noncomputable section
def cPick (xs : List Int) (F : C) : C := fun l h k => F l h fun v h => asNat v fun i => match nthO xs i with | some x => k (.int x) h | .none => false
def fTiesC (xs : List Int) : Fn := fun args h k => chk (Nat.beq (lenL args) 1) (fDef 1 (sBlock [(sSet 1 (cList [(cTup [(cVal (.int 0)), (cVal (.int 1))]), (cTup [(cVal (.int 0)), (cVal (.int 2))]), (cTup [(cVal (.int 0)), (cVal (.int 3))]), (cTup [(cVal (.int 1)), (cVal (.int 2))]), (cTup [(cVal (.int 1)), (cVal (.int 3))]), (cTup [(cVal (.int 2)), (cVal (.int 3))])])), (sRet (cComp 3 [0, 1] (iEnum (cVar 1)) (gIf (bC (cOp2 oEqI (cPick xs (cVar 0)) (cVal (.int 1)))) (gElt (cVar 1)))))]) args h k)
def fNamesC (x1 x2 x3 x4 : Int) : Fn := fun args h k => chk (Nat.beq (lenL args) 1) (fDef 4 (sBlock [(sSet 1 (cOp2 oItemL (cList [(cVal (.str [98, 101, 95, 66, 89])), (cVal (.str [98, 32, 99])), (cVal (.str [97, 46, 66])), (cVal (.str [97, 90, 45, 122]))]) (cVal (.int x1)))), (sSet 2 (cOp2 oItemL (cList [(cVal (.str [117, 116, 102, 56])), (cVal (.str [85, 116, 102, 45, 56])), (cVal (.str [60])), (cVal (.str [46, 67, 32]))]) (cVal (.int x2)))), (sSet 3 (cList [(cTup [(cVal (.str [])), (cVal .none)]), (cTup [(cVal (.str [32])), (cVal (.str []))]), (cTup [(cVal .none), (cVal .none)]), (cTup [(cVal .none), (cVar 2)]), (cTup [(cVar 1), (cVal .none)]), (cTup [(cVar 1), (cVar 2)])])), (sSet 4 (cComp 2 [0] (iList (cVar 3)) (gElt (cCall f__build_localename [(cVar 0)])))), (sIf (bOr (bC (cOp2 oNeD (cVar 4) (cList [(cVal (.str [])), (cVal (.str [32, 46])), (cVal (.str [67])), (cOp2 oAddS (cVal (.str [67, 46])) (cVar 2)), (cVar 1), (cOp2 oAddS (cOp2 oAddS (cVar 1) (cVal (.str [46]))) (cVar 2))]))) (bC (cOp2 oNeD (cOp1 oSorted (cOp1 oRevL (cVar 4))) (cVar 4)))) (sBlock [(sRet (cList []))]) (sBlock [])), (sExpr (cM isListB oPopAt (cVar 4) (cVal (.int x3)))), (sExpr (cM isListB oPopAt (cVar 4) (cVal (.int x4)))), (sRet (cVar 4))]) args h k)
def H0 : Hp := ⟨.node .tab .nil .nil, 1⟩
def H1 (a b : Int) : Hp := ⟨.node .tab (.node (.list [.int a, .int b]) .nil .nil) .nil, 2⟩
def bit (a : Int) (i : Nat) : Int := (a.fdiv (Int.ofNat (2 ^ i))).fmod (Int.ofNat 2)
/-- the heap once the six pairs are laid -/
def HL (a b : Int) : Hp := ⟨(((((((H1 a b).t.put (.tup [.int 0, .int 1]) 2).put (.tup [.int 0, .int 2]) 3).put (.tup [.int 0, .int 3]) 4).put (.tup [.int 1, .int 2]) 5).put (.tup [.int 1, .int 3]) 6).put (.tup [.int 2, .int 3]) 7).put (.list [.ref 2, .ref 3, .ref 4, .ref 5, .ref 6, .ref 7]) 8, 9⟩
def H2 (a b : Int) (vs : List V) : Hp := ⟨(HL a b).t.put (.list vs) 9, 10⟩
def l1 (L : Nat) : List V := [.adr L, .ref 1, .unb, .unb, .unb, .unb, .unb, .unb, .unb, .unb, .unb, .unb, .unb, .unb, .unb, .unb, .unb]
def lC : List V := [.unb, .ref 1, .ref 9, .unb, .ref 43, .unb, .unb, .unb, .unb, .unb, .unb, .unb, .unb, .unb, .unb, .unb, .unb]
def HC (a b : Int) (vs : List V) : Hp := ⟨((((((((((baseT 48).put (.list [.str [61, 60, 60, 60], .str [62, 61, 60, 60], .str [62, 62, 61, 60], .str [62, 62, 62, 61]]) 43).put (.tup [.int 2, .int 3]) 7).put (.tup [.int 1, .int 3]) 6).put (.tup [.int 1, .int 2]) 5).put (.tup [.int 0, .int 3]) 4).put (.tup [.int 0, .int 2]) 3).put (.tup [.int 0, .int 1]) 2).put (.list vs) 9).put (.list [.int a, .int b]) 1).put .tab 0, 48⟩
def K2 (L : Nat) (kk : List V → Hp → Bool) (kr : K) (kb : List V → Hp → Bool) : K := fun v h => setMany [2, 3] [.ref 9, v] (l1 L) fun l => sBlock lawA l h (fun l h => lawK l h kk kr kb) kr kb
end
end Mine
namespace Mine
open PySem
noncomputable section
-- the ties
def stpE : Stp := fun i h c => asList (.ref 8) h fun vs => match nthO vs i with | some x => c (some [.int (Int.ofNat i), x]) | .none => c .none
def gT : G := gIf (bC (cOp2 oEqI (cOp2 oModI (cOp2 oDivI (cVar 3) (cOp2 oPowI (cVal (.int 2)) (cVar 0))) (cVal (.int 2))) (cVal (.int 1)))) (gElt (cVar 1))
def lL (a : Int) : List V := [.unb, .unb, .unb, .int a, .ref 8]
theorem ties_gl (a b : Int) (k : K) : f__law_ties [.int a] (H1 a b) k = gLoop stpE [0, 1] gT (lL a) 6 0 (HL a b) [] (fun h acc => newO (.list (revL acc [])) h k) := by kernel_rfl
def accT (t : Bool) (j : Nat) (acc : List V) : List V := @Bool.rec (fun _ => List V) acc (.ref j :: acc) t
theorem g_step0 (a b : Int) (acc : List V) (KL : Hp → List V → Bool) : gLoop stpE [0, 1] gT (lL a) 6 0 (HL a b) acc KL =
    @Bool.rec (fun _ => Bool) (gLoop stpE [0, 1] gT (lL a) 5 1 (HL a b) acc KL) (chk (Nat.ble (lenL acc) 4096) (gLoop stpE [0, 1] gT (lL a) 5 1 (HL a b) (.ref 2 :: acc) KL)) (eqZ (bit a 0) 1) := by kernel_rfl
theorem g_step1 (a b : Int) (acc : List V) (KL : Hp → List V → Bool) : gLoop stpE [0, 1] gT (lL a) 5 1 (HL a b) acc KL =
    @Bool.rec (fun _ => Bool) (gLoop stpE [0, 1] gT (lL a) 4 2 (HL a b) acc KL) (chk (Nat.ble (lenL acc) 4096) (gLoop stpE [0, 1] gT (lL a) 4 2 (HL a b) (.ref 3 :: acc) KL)) (eqZ (bit a 1) 1) := by kernel_rfl
theorem g_step2 (a b : Int) (acc : List V) (KL : Hp → List V → Bool) : gLoop stpE [0, 1] gT (lL a) 4 2 (HL a b) acc KL =
    @Bool.rec (fun _ => Bool) (gLoop stpE [0, 1] gT (lL a) 3 3 (HL a b) acc KL) (chk (Nat.ble (lenL acc) 4096) (gLoop stpE [0, 1] gT (lL a) 3 3 (HL a b) (.ref 4 :: acc) KL)) (eqZ (bit a 2) 1) := by kernel_rfl
theorem g_step3 (a b : Int) (acc : List V) (KL : Hp → List V → Bool) : gLoop stpE [0, 1] gT (lL a) 3 3 (HL a b) acc KL =
    @Bool.rec (fun _ => Bool) (gLoop stpE [0, 1] gT (lL a) 2 4 (HL a b) acc KL) (chk (Nat.ble (lenL acc) 4096) (gLoop stpE [0, 1] gT (lL a) 2 4 (HL a b) (.ref 5 :: acc) KL)) (eqZ (bit a 3) 1) := by kernel_rfl
theorem g_step4 (a b : Int) (acc : List V) (KL : Hp → List V → Bool) : gLoop stpE [0, 1] gT (lL a) 2 4 (HL a b) acc KL =
    @Bool.rec (fun _ => Bool) (gLoop stpE [0, 1] gT (lL a) 1 5 (HL a b) acc KL) (chk (Nat.ble (lenL acc) 4096) (gLoop stpE [0, 1] gT (lL a) 1 5 (HL a b) (.ref 6 :: acc) KL)) (eqZ (bit a 4) 1) := by kernel_rfl
theorem g_step5 (a b : Int) (acc : List V) (KL : Hp → List V → Bool) : gLoop stpE [0, 1] gT (lL a) 1 5 (HL a b) acc KL =
    @Bool.rec (fun _ => Bool) (gLoop stpE [0, 1] gT (lL a) 0 6 (HL a b) acc KL) (chk (Nat.ble (lenL acc) 4096) (gLoop stpE [0, 1] gT (lL a) 0 6 (HL a b) (.ref 7 :: acc) KL)) (eqZ (bit a 5) 1) := by kernel_rfl
theorem g_end (a b : Int) (acc : List V) (KL : Hp → List V → Bool) : gLoop stpE [0, 1] gT (lL a) 0 6 (HL a b) acc KL = KL (HL a b) acc := by kernel_rfl
theorem acc_take {f : List V → Bool} {t : Bool} {j : Nat} {acc : List V} (h : Nat.ble (lenL acc) 4096 = true) : @Bool.rec (fun _ => Bool) (f acc) (chk (Nat.ble (lenL acc) 4096) (f (.ref j :: acc))) t = f (accT t j acc) := by
  rw [h]; cases t <;> rfl
def vsT (t0 t1 t2 t3 t4 t5 : Bool) : List V := revL (accT t5 7 (accT t4 6 (accT t3 5 (accT t2 4 (accT t1 3 (accT t0 2 [])))))) []
theorem ties_all (a b : Int) (k : K) : f__law_ties [.int a] (H1 a b) k = k (.ref 9) (H2 a b (vsT (eqZ (bit a 0) 1) (eqZ (bit a 1) 1) (eqZ (bit a 2) 1) (eqZ (bit a 3) 1) (eqZ (bit a 4) 1) (eqZ (bit a 5) 1))) := by
  unfold vsT
  rw [ties_gl, g_step0, acc_take (f := fun acc => gLoop stpE [0, 1] gT (lL a) 5 1 (HL a b) acc _) rfl]
  generalize eqZ (bit a 0) 1 = t0
  rw [g_step1, acc_take (f := fun acc => gLoop stpE [0, 1] gT (lL a) 4 2 (HL a b) acc _) (by cases t0 <;> rfl)]
  generalize eqZ (bit a 1) 1 = t1
  rw [g_step2, acc_take (f := fun acc => gLoop stpE [0, 1] gT (lL a) 3 3 (HL a b) acc _) (by cases t0 <;> cases t1 <;> rfl)]
  generalize eqZ (bit a 2) 1 = t2
  rw [g_step3, acc_take (f := fun acc => gLoop stpE [0, 1] gT (lL a) 2 4 (HL a b) acc _) (by cases t0 <;> cases t1 <;> cases t2 <;> rfl)]
  generalize eqZ (bit a 3) 1 = t3
  rw [g_step4, acc_take (f := fun acc => gLoop stpE [0, 1] gT (lL a) 1 5 (HL a b) acc _) (by cases t0 <;> cases t1 <;> cases t2 <;> cases t3 <;> rfl)]
  generalize eqZ (bit a 4) 1 = t4
  rw [g_step5, acc_take (f := fun acc => gLoop stpE [0, 1] gT (lL a) 0 6 (HL a b) acc _) (by cases t0 <;> cases t1 <;> cases t2 <;> cases t3 <;> cases t4 <;> rfl)]
  rw [g_end]
  rfl
end
end Mine
namespace Mine
open PySem
noncomputable section
section
variable {l : List V} {h : Hp} {kn : List V → Hp → Bool} {kr : K} {kb : List V → Hp → Bool}
theorem blk_set {i : Nat} {E E' : C} {ss ss' : List S} (hE : ∀ h k, E l h k = E' l h k) (hB : ∀ v h, sBlock ss (setV v l i) h kn kr kb = sBlock ss' (setV v l i) h kn kr kb) : sBlock (sSet i E :: ss) l h kn kr kb = sBlock (sSet i E' :: ss') l h kn kr kb := by
  show E l h (fun v h => sBlock ss (setV v l i) h kn kr kb) = E' l h fun v h => sBlock ss' (setV v l i) h kn kr kb
  rw [hE, show (fun v h => sBlock ss (setV v l i) h kn kr kb) = fun v h => sBlock ss' (setV v l i) h kn kr kb from funext fun v => funext fun h => hB v h]
theorem blk_if {t : B} {F : C} {ss ss' : List S} (hB : ∀ h, sBlock ss l h kn kr kb = sBlock ss' l h kn kr kb) : sBlock (sIf t (sBlock [sRet F]) (sBlock []) :: ss) l h kn kr kb = sBlock (sIf t (sBlock [sRet F]) (sBlock []) :: ss') l h kn kr kb := by
  show t l h (fun b h => @Bool.rec (fun _ => Bool) (sBlock ss l h kn kr kb) (F l h kr) b) = t l h fun b h => @Bool.rec (fun _ => Bool) (sBlock ss' l h kn kr kb) (F l h kr) b
  rw [show (fun (b : Bool) (h : Hp) => @Bool.rec (fun _ => Bool) (sBlock ss l h kn kr kb) (F l h kr) b) = fun b h => @Bool.rec (fun _ => Bool) (sBlock ss' l h kn kr kb) (F l h kr) b from funext fun b => funext fun h => by rw [hB]]
theorem blk_expr {E E' : C} {ss ss' : List S} (hE : ∀ h k, E l h k = E' l h k) (hB : ∀ h, sBlock ss l h kn kr kb = sBlock ss' l h kn kr kb) : sBlock (sExpr E :: ss) l h kn kr kb = sBlock (sExpr E' :: ss') l h kn kr kb := by
  show E l h (fun _ h => sBlock ss l h kn kr kb) = E' l h fun _ h => sBlock ss' l h kn kr kb
  rw [hE, show (fun (_ : V) h => sBlock ss l h kn kr kb) = fun (_ : V) h => sBlock ss' l h kn kr kb from funext fun v => funext fun h => hB h]
theorem op2_r {o : O2} {F M M' : C} (hM : ∀ h k, M l h k = M' l h k) (h : Hp) (k : K) : cOp2 o F M l h k = cOp2 o F M' l h k := by
  show F l h (fun a h => M l h fun b h => o a b h k) = F l h fun a h => M' l h fun b h => o a b h k
  rw [show (fun (a : V) h => M l h fun b h => o a b h k) = fun (a : V) h => M' l h fun b h => o a b h k from funext fun a => funext fun h => hM h _]
theorem cM_r {t : V → Hp → Bool} {o : O2} {F M M' : C} (hM : ∀ h k, M l h k = M' l h k) (h : Hp) (k : K) : cM t o F M l h k = cM t o F M' l h k := by
  show F l h (fun a h => chk (t a h) (M l h fun b h => o a b h k)) = F l h fun a h => chk (t a h) (M' l h fun b h => o a b h k)
  rw [show (fun (a : V) h => chk (t a h) (M l h fun b h => o a b h k)) = fun (a : V) h => chk (t a h) (M' l h fun b h => o a b h k) from funext fun a => funext fun h => by rw [hM]]
end
theorem names_eq (b : Int) (h : Hp) (k : K) : f__law_names [.int b] h k = fNamesC ((b.fdiv 120).fmod 4) ((b.fdiv 480).fmod 4) (b.fmod 6) ((b.fdiv 6).fmod 5) [.int b] h k := by
  unfold f__law_names fNamesC fDef
  refine congrArg (chk (Nat.beq (lenL [V.int b]) 1)) ?_
  refine blk_set (op2_r fun h k => by kernel_rfl) fun v1 h1 => ?_
  refine blk_set (op2_r fun h k => by kernel_rfl) fun v2 h2 => ?_
  refine blk_set (fun h k => rfl) fun v3 h3 => ?_
  refine blk_set (fun h k => rfl) fun v4 h4 => ?_
  refine blk_if fun h5 => ?_
  refine blk_expr (cM_r fun h k => by kernel_rfl) fun h6 => ?_
  refine blk_expr (cM_r fun h k => by kernel_rfl) fun h7 => ?_
  rfl
-- the cells
def stpC (ns : List Int) : Stp := fun i _ c => match nthO ns i with | some x => c (some [.int (Int.ofNat i), .int x]) | .none => c .none
def bodyX (M : C) : S := sBlock [sSetL (cOp2 oAddI (cOp2 oItemL (cVar 1) M) (cVar 3)) (cVar 1) M]
theorem cells_gl (L : Nat) (ns : List Int) (k : K) : f_cellsP L ns [.adr L] H0 k =
    @Bool.rec (fun _ => Bool) false (sLoop (stpC ns) [2, 3] (bodyX (cOp2 oModI (cVar 2) (cVal (.int 2)))) (lenL ns) 0 [.adr L, .ref 1, .unb, .unb] (H1 43 78) (fun l h => sBlock [sRet (cVar 1)] l h (fun _ h => k .none h) k (fun _ _ => false)) k) (Nat.beq L L) := by kernel_rfl
theorem body_eq (L : Nat) (a b n : Int) (i : Nat) (kn : List V → Hp → Bool) (kr : K) (kb : List V → Hp → Bool) : bodyX (cOp2 oModI (cVar 2) (cVal (.int 2))) [.adr L, .ref 1, .int (Int.ofNat i), .int n] (H1 a b) kn kr kb =
    bodyX (cVal (.int ((Int.ofNat i).fmod (Int.ofNat 2)))) [.adr L, .ref 1, .int (Int.ofNat i), .int n] (H1 a b) kn kr kb := by kernel_rfl
theorem body_0 (L : Nat) (a b n : Int) (i : Nat) (kn : List V → Hp → Bool) (kr : K) (kb : List V → Hp → Bool) : bodyX (cVal (.int 0)) [.adr L, .ref 1, .int (Int.ofNat i), .int n] (H1 a b) kn kr kb = kn [.adr L, .ref 1, .int (Int.ofNat i), .int n] (H1 (a + n) b) := by kernel_rfl
theorem body_1 (L : Nat) (a b n : Int) (i : Nat) (kn : List V → Hp → Bool) (kr : K) (kb : List V → Hp → Bool) : bodyX (cVal (.int 1)) [.adr L, .ref 1, .int (Int.ofNat i), .int n] (H1 a b) kn kr kb = kn [.adr L, .ref 1, .int (Int.ofNat i), .int n] (H1 a (b + n)) := by kernel_rfl
theorem sLoop0 (ns : List Int) (a b : Int) (B : S) (i : Nat) (l : List V) (kn : List V → Hp → Bool) (kr : K) : sLoop (stpC ns) [2, 3] B 0 i l (H1 a b) kn kr =
    (match nthO ns i with | some x => false | .none => kn l (H1 a b)) := by
  show (match nthO ns i with | some x => (fun o : Option (List V) => match o with | .none => kn l (H1 a b) | _ => false) (some [.int (Int.ofNat i), .int x]) | .none => (fun o : Option (List V) => match o with | .none => kn l (H1 a b) | _ => false) .none) = _
  cases nthO ns i <;> rfl
theorem sLoopS (L : Nat) (ns : List Int) (a b : Int) (B : S) (m i : Nat) (x y : V) (kn : List V → Hp → Bool) (kr : K) : sLoop (stpC ns) [2, 3] B (m + 1) i [.adr L, .ref 1, x, y] (H1 a b) kn kr =
    (match nthO ns i with | some z => B [.adr L, .ref 1, .int (Int.ofNat i), .int z] (H1 a b) (fun l h => sLoop (stpC ns) [2, 3] B m (Nat.succ i) l h kn kr) kr kn | .none => kn [.adr L, .ref 1, x, y] (H1 a b)) := by
  show (match nthO ns i with
    | some z => (fun o : Option (List V) => match o with | .none => kn [.adr L, .ref 1, x, y] (H1 a b) | some xs => setMany [2, 3] xs [.adr L, .ref 1, x, y] fun l => B l (H1 a b) (fun l h => sLoop (stpC ns) [2, 3] B m (Nat.succ i) l h kn kr) kr kn) (some [.int (Int.ofNat i), .int z])
    | .none => (fun o : Option (List V) => match o with | .none => kn [.adr L, .ref 1, x, y] (H1 a b) | some xs => setMany [2, 3] xs [.adr L, .ref 1, x, y] fun l => B l (H1 a b) (fun l h => sLoop (stpC ns) [2, 3] B m (Nat.succ i) l h kn kr) kr kn) .none) = _
  cases nthO ns i <;> rfl
theorem cells_loop (L : Nat) (ns : List Int) (k : K) (hk : ∀ a b, k (.ref 1) (H1 a b) = true) : ∀ (m i : Nat) (a b : Int) (x y : V), i + m = ns.length →
    sLoop (stpC ns) [2, 3] (bodyX (cOp2 oModI (cVar 2) (cVal (.int 2)))) m i [.adr L, .ref 1, x, y] (H1 a b) (fun l h => sBlock [sRet (cVar 1)] l h (fun _ h => k .none h) k (fun _ _ => false)) k = true
  | 0, i, a, b, x, y, hi => by
    rw [sLoop0, nthO_eq, List.getElem?_eq_none (by omega)]
    exact hk a b
  | m + 1, i, a, b, x, y, hi => by
    have hlt : i < ns.length := by omega
    rw [sLoopS, nthO_eq, List.getElem?_eq_getElem hlt]
    show bodyX (cOp2 oModI (cVar 2) (cVal (.int 2))) [.adr L, .ref 1, .int (Int.ofNat i), .int ns[i]] (H1 a b) _ _ _ = true
    rw [body_eq]
    have hX : (Int.ofNat i).fmod (Int.ofNat 2) = 0 ∨ (Int.ofNat i).fmod (Int.ofNat 2) = 1 := by
      have h0 := Int.fmod_nonneg_of_pos (Int.ofNat i) (b := Int.ofNat 2) (by decide)
      have h1 := Int.fmod_lt_of_pos (Int.ofNat i) (b := Int.ofNat 2) (by decide)
      have : (Int.ofNat 2) = 2 := rfl
      omega
    rcases hX with e | e
    · rw [e, body_0]; exact cells_loop L ns k hk m (i + 1) _ _ _ _ (by omega)
    · rw [e, body_1]; exact cells_loop L ns k hk m (i + 1) _ _ _ _ (by omega)
theorem cells_ok (L : Nat) (ns : List Int) (k : K) (hk : ∀ a b, k (.ref 1) (H1 a b) = true) : f_cellsP L ns [.adr L] H0 k = true := by
  rw [cells_gl, Nat.beq_refl]
  exact cells_loop L ns k hk _ 0 43 78 _ _ (by rw [lenL_eq]; simp)
end
end Mine
namespace Mine
open PySem
noncomputable section
theorem lt4 {P : Nat → Prop} (h0 : P 0) (h1 : P 1) (h2 : P 2) (h3 : P 3) : ∀ k, k < 4 → P k := by
  intro k hk
  match k, hk with
  | 0, _ => exact h0
  | 1, _ => exact h1
  | 2, _ => exact h2
  | 3, _ => exact h3
  | k + 4, hk => exact absurd hk (by omega)
theorem lt5 {P : Nat → Prop} (h0 : P 0) (h1 : P 1) (h2 : P 2) (h3 : P 3) (h4 : P 4) : ∀ k, k < 5 → P k := by
  intro k hk
  match k, hk with
  | 0, _ => exact h0
  | 1, _ => exact h1
  | 2, _ => exact h2
  | 3, _ => exact h3
  | 4, _ => exact h4
  | k + 5, hk => exact absurd hk (by omega)
theorem lt6 {P : Nat → Prop} (h0 : P 0) (h1 : P 1) (h2 : P 2) (h3 : P 3) (h4 : P 4) (h5 : P 5) : ∀ k, k < 6 → P k := by
  intro k hk
  match k, hk with
  | 0, _ => exact h0
  | 1, _ => exact h1
  | 2, _ => exact h2
  | 3, _ => exact h3
  | 4, _ => exact h4
  | 5, _ => exact h5
  | k + 6, hk => exact absurd hk (by omega)
theorem lt8 {P : Nat → Prop} (h0 : P 0) (h1 : P 1) (h2 : P 2) (h3 : P 3) (h4 : P 4) (h5 : P 5) (h6 : P 6) (h7 : P 7) : ∀ k, k < 8 → P k := by
  intro k hk
  match k, hk with
  | 0, _ => exact h0
  | 1, _ => exact h1
  | 2, _ => exact h2
  | 3, _ => exact h3
  | 4, _ => exact h4
  | 5, _ => exact h5
  | 6, _ => exact h6
  | 7, _ => exact h7
  | k + 8, hk => exact absurd hk (by omega)
theorem lt64 {P : Nat → Prop} (h : ∀ i, i < 8 → ∀ j, j < 8 → P (8 * i + j)) : ∀ k, k < 64 → P k := fun k hk => by
  have := h (k / 8) (by omega) (k % 8) (by omega)
  rwa [show 8 * (k / 8) + k % 8 = k by omega] at this
def chkA (m r : Nat) : Bool := match nthO endsTab m with | some es => f__law_apart [.ref 1, .int (Int.ofNat r)] (mkHp (osA (pairsOf m))) (probeA (pairsOf m) es) | .none => false
def chkA4 (m : Nat) : Bool := chk (chkA m 0) (chk (chkA m 1) (chk (chkA m 2) (chkA m 3)))
theorem pa_0 : chkA4 0 = true := by kernel_rfl
theorem pa_1 : chkA4 1 = true := by kernel_rfl
theorem pa_2 : chkA4 2 = true := by kernel_rfl
theorem pa_3 : chkA4 3 = true := by kernel_rfl
theorem pa_4 : chkA4 4 = true := by kernel_rfl
theorem pa_5 : chkA4 5 = true := by kernel_rfl
theorem pa_6 : chkA4 6 = true := by kernel_rfl
theorem pa_7 : chkA4 7 = true := by kernel_rfl
theorem pa_8 : chkA4 8 = true := by kernel_rfl
theorem pa_9 : chkA4 9 = true := by kernel_rfl
theorem pa_10 : chkA4 10 = true := by kernel_rfl
theorem pa_11 : chkA4 11 = true := by kernel_rfl
theorem pa_12 : chkA4 12 = true := by kernel_rfl
theorem pa_13 : chkA4 13 = true := by kernel_rfl
theorem pa_14 : chkA4 14 = true := by kernel_rfl
theorem pa_15 : chkA4 15 = true := by kernel_rfl
theorem pa_16 : chkA4 16 = true := by kernel_rfl
theorem pa_17 : chkA4 17 = true := by kernel_rfl
theorem pa_18 : chkA4 18 = true := by kernel_rfl
theorem pa_19 : chkA4 19 = true := by kernel_rfl
theorem pa_20 : chkA4 20 = true := by kernel_rfl
theorem pa_21 : chkA4 21 = true := by kernel_rfl
theorem pa_22 : chkA4 22 = true := by kernel_rfl
theorem pa_23 : chkA4 23 = true := by kernel_rfl
theorem pa_24 : chkA4 24 = true := by kernel_rfl
theorem pa_25 : chkA4 25 = true := by kernel_rfl
theorem pa_26 : chkA4 26 = true := by kernel_rfl
theorem pa_27 : chkA4 27 = true := by kernel_rfl
theorem pa_28 : chkA4 28 = true := by kernel_rfl
theorem pa_29 : chkA4 29 = true := by kernel_rfl
theorem pa_30 : chkA4 30 = true := by kernel_rfl
theorem pa_31 : chkA4 31 = true := by kernel_rfl
theorem pa_32 : chkA4 32 = true := by kernel_rfl
theorem pa_33 : chkA4 33 = true := by kernel_rfl
theorem pa_34 : chkA4 34 = true := by kernel_rfl
theorem pa_35 : chkA4 35 = true := by kernel_rfl
theorem pa_36 : chkA4 36 = true := by kernel_rfl
theorem pa_37 : chkA4 37 = true := by kernel_rfl
theorem pa_38 : chkA4 38 = true := by kernel_rfl
theorem pa_39 : chkA4 39 = true := by kernel_rfl
theorem pa_40 : chkA4 40 = true := by kernel_rfl
theorem pa_41 : chkA4 41 = true := by kernel_rfl
theorem pa_42 : chkA4 42 = true := by kernel_rfl
theorem pa_43 : chkA4 43 = true := by kernel_rfl
theorem pa_44 : chkA4 44 = true := by kernel_rfl
theorem pa_45 : chkA4 45 = true := by kernel_rfl
theorem pa_46 : chkA4 46 = true := by kernel_rfl
theorem pa_47 : chkA4 47 = true := by kernel_rfl
theorem pa_48 : chkA4 48 = true := by kernel_rfl
theorem pa_49 : chkA4 49 = true := by kernel_rfl
theorem pa_50 : chkA4 50 = true := by kernel_rfl
theorem pa_51 : chkA4 51 = true := by kernel_rfl
theorem pa_52 : chkA4 52 = true := by kernel_rfl
theorem pa_53 : chkA4 53 = true := by kernel_rfl
theorem pa_54 : chkA4 54 = true := by kernel_rfl
theorem pa_55 : chkA4 55 = true := by kernel_rfl
theorem pa_56 : chkA4 56 = true := by kernel_rfl
theorem pa_57 : chkA4 57 = true := by kernel_rfl
theorem pa_58 : chkA4 58 = true := by kernel_rfl
theorem pa_59 : chkA4 59 = true := by kernel_rfl
theorem pa_60 : chkA4 60 = true := by kernel_rfl
theorem pa_61 : chkA4 61 = true := by kernel_rfl
theorem pa_62 : chkA4 62 = true := by kernel_rfl
theorem pa_63 : chkA4 63 = true := by kernel_rfl
theorem chkA_all : ∀ m, m < 64 → chkA4 m = true := lt64 (lt8 (lt8 pa_0 pa_1 pa_2 pa_3 pa_4 pa_5 pa_6 pa_7) (lt8 pa_8 pa_9 pa_10 pa_11 pa_12 pa_13 pa_14 pa_15) (lt8 pa_16 pa_17 pa_18 pa_19 pa_20 pa_21 pa_22 pa_23) (lt8 pa_24 pa_25 pa_26 pa_27 pa_28 pa_29 pa_30 pa_31) (lt8 pa_32 pa_33 pa_34 pa_35 pa_36 pa_37 pa_38 pa_39) (lt8 pa_40 pa_41 pa_42 pa_43 pa_44 pa_45 pa_46 pa_47) (lt8 pa_48 pa_49 pa_50 pa_51 pa_52 pa_53 pa_54 pa_55) (lt8 pa_56 pa_57 pa_58 pa_59 pa_60 pa_61 pa_62 pa_63))
end
end Mine
namespace Mine
open PySem
noncomputable section
def NamesE (x1 x2 x3 x4 : Nat) : Prop := ∀ (L : Nat) (a b : Int) (vs : List V) (kk : List V → Hp → Bool) (kr : K) (kb : List V → Hp → Bool), fNamesC (Int.ofNat x1) (Int.ofNat x2) (Int.ofNat x3) (Int.ofNat x4) [.int b] (H2 a b vs) (K2 L kk kr kb) = kk lC (HC a b vs)
theorem pn_000 : ∀ x4, x4 < 5 → NamesE 0 0 0 x4 := by
  refine lt5 ?_ ?_ ?_ ?_ ?_ <;> (intro L a b vs kk kr kb; kernel_rfl)
theorem pn_001 : ∀ x4, x4 < 5 → NamesE 0 0 1 x4 := by
  refine lt5 ?_ ?_ ?_ ?_ ?_ <;> (intro L a b vs kk kr kb; kernel_rfl)
theorem pn_002 : ∀ x4, x4 < 5 → NamesE 0 0 2 x4 := by
  refine lt5 ?_ ?_ ?_ ?_ ?_ <;> (intro L a b vs kk kr kb; kernel_rfl)
theorem pn_003 : ∀ x4, x4 < 5 → NamesE 0 0 3 x4 := by
  refine lt5 ?_ ?_ ?_ ?_ ?_ <;> (intro L a b vs kk kr kb; kernel_rfl)
theorem pn_004 : ∀ x4, x4 < 5 → NamesE 0 0 4 x4 := by
  refine lt5 ?_ ?_ ?_ ?_ ?_ <;> (intro L a b vs kk kr kb; kernel_rfl)
theorem pn_005 : ∀ x4, x4 < 5 → NamesE 0 0 5 x4 := by
  refine lt5 ?_ ?_ ?_ ?_ ?_ <;> (intro L a b vs kk kr kb; kernel_rfl)
theorem pn_010 : ∀ x4, x4 < 5 → NamesE 0 1 0 x4 := by
  refine lt5 ?_ ?_ ?_ ?_ ?_ <;> (intro L a b vs kk kr kb; kernel_rfl)
theorem pn_011 : ∀ x4, x4 < 5 → NamesE 0 1 1 x4 := by
  refine lt5 ?_ ?_ ?_ ?_ ?_ <;> (intro L a b vs kk kr kb; kernel_rfl)
theorem pn_012 : ∀ x4, x4 < 5 → NamesE 0 1 2 x4 := by
  refine lt5 ?_ ?_ ?_ ?_ ?_ <;> (intro L a b vs kk kr kb; kernel_rfl)
theorem pn_013 : ∀ x4, x4 < 5 → NamesE 0 1 3 x4 := by
  refine lt5 ?_ ?_ ?_ ?_ ?_ <;> (intro L a b vs kk kr kb; kernel_rfl)
theorem pn_014 : ∀ x4, x4 < 5 → NamesE 0 1 4 x4 := by
  refine lt5 ?_ ?_ ?_ ?_ ?_ <;> (intro L a b vs kk kr kb; kernel_rfl)
theorem pn_015 : ∀ x4, x4 < 5 → NamesE 0 1 5 x4 := by
  refine lt5 ?_ ?_ ?_ ?_ ?_ <;> (intro L a b vs kk kr kb; kernel_rfl)
theorem pn_020 : ∀ x4, x4 < 5 → NamesE 0 2 0 x4 := by
  refine lt5 ?_ ?_ ?_ ?_ ?_ <;> (intro L a b vs kk kr kb; kernel_rfl)
theorem pn_021 : ∀ x4, x4 < 5 → NamesE 0 2 1 x4 := by
  refine lt5 ?_ ?_ ?_ ?_ ?_ <;> (intro L a b vs kk kr kb; kernel_rfl)
theorem pn_022 : ∀ x4, x4 < 5 → NamesE 0 2 2 x4 := by
  refine lt5 ?_ ?_ ?_ ?_ ?_ <;> (intro L a b vs kk kr kb; kernel_rfl)
theorem pn_023 : ∀ x4, x4 < 5 → NamesE 0 2 3 x4 := by
  refine lt5 ?_ ?_ ?_ ?_ ?_ <;> (intro L a b vs kk kr kb; kernel_rfl)
theorem pn_024 : ∀ x4, x4 < 5 → NamesE 0 2 4 x4 := by
  refine lt5 ?_ ?_ ?_ ?_ ?_ <;> (intro L a b vs kk kr kb; kernel_rfl)
theorem pn_025 : ∀ x4, x4 < 5 → NamesE 0 2 5 x4 := by
  refine lt5 ?_ ?_ ?_ ?_ ?_ <;> (intro L a b vs kk kr kb; kernel_rfl)
theorem pn_030 : ∀ x4, x4 < 5 → NamesE 0 3 0 x4 := by
  refine lt5 ?_ ?_ ?_ ?_ ?_ <;> (intro L a b vs kk kr kb; kernel_rfl)
theorem pn_031 : ∀ x4, x4 < 5 → NamesE 0 3 1 x4 := by
  refine lt5 ?_ ?_ ?_ ?_ ?_ <;> (intro L a b vs kk kr kb; kernel_rfl)
theorem pn_032 : ∀ x4, x4 < 5 → NamesE 0 3 2 x4 := by
  refine lt5 ?_ ?_ ?_ ?_ ?_ <;> (intro L a b vs kk kr kb; kernel_rfl)
theorem pn_033 : ∀ x4, x4 < 5 → NamesE 0 3 3 x4 := by
  refine lt5 ?_ ?_ ?_ ?_ ?_ <;> (intro L a b vs kk kr kb; kernel_rfl)
theorem pn_034 : ∀ x4, x4 < 5 → NamesE 0 3 4 x4 := by
  refine lt5 ?_ ?_ ?_ ?_ ?_ <;> (intro L a b vs kk kr kb; kernel_rfl)
theorem pn_035 : ∀ x4, x4 < 5 → NamesE 0 3 5 x4 := by
  refine lt5 ?_ ?_ ?_ ?_ ?_ <;> (intro L a b vs kk kr kb; kernel_rfl)
theorem pn_100 : ∀ x4, x4 < 5 → NamesE 1 0 0 x4 := by
  refine lt5 ?_ ?_ ?_ ?_ ?_ <;> (intro L a b vs kk kr kb; kernel_rfl)
theorem pn_101 : ∀ x4, x4 < 5 → NamesE 1 0 1 x4 := by
  refine lt5 ?_ ?_ ?_ ?_ ?_ <;> (intro L a b vs kk kr kb; kernel_rfl)
theorem pn_102 : ∀ x4, x4 < 5 → NamesE 1 0 2 x4 := by
  refine lt5 ?_ ?_ ?_ ?_ ?_ <;> (intro L a b vs kk kr kb; kernel_rfl)
theorem pn_103 : ∀ x4, x4 < 5 → NamesE 1 0 3 x4 := by
  refine lt5 ?_ ?_ ?_ ?_ ?_ <;> (intro L a b vs kk kr kb; kernel_rfl)
theorem pn_104 : ∀ x4, x4 < 5 → NamesE 1 0 4 x4 := by
  refine lt5 ?_ ?_ ?_ ?_ ?_ <;> (intro L a b vs kk kr kb; kernel_rfl)
theorem pn_105 : ∀ x4, x4 < 5 → NamesE 1 0 5 x4 := by
  refine lt5 ?_ ?_ ?_ ?_ ?_ <;> (intro L a b vs kk kr kb; kernel_rfl)
theorem pn_110 : ∀ x4, x4 < 5 → NamesE 1 1 0 x4 := by
  refine lt5 ?_ ?_ ?_ ?_ ?_ <;> (intro L a b vs kk kr kb; kernel_rfl)
theorem pn_111 : ∀ x4, x4 < 5 → NamesE 1 1 1 x4 := by
  refine lt5 ?_ ?_ ?_ ?_ ?_ <;> (intro L a b vs kk kr kb; kernel_rfl)
theorem pn_112 : ∀ x4, x4 < 5 → NamesE 1 1 2 x4 := by
  refine lt5 ?_ ?_ ?_ ?_ ?_ <;> (intro L a b vs kk kr kb; kernel_rfl)
theorem pn_113 : ∀ x4, x4 < 5 → NamesE 1 1 3 x4 := by
  refine lt5 ?_ ?_ ?_ ?_ ?_ <;> (intro L a b vs kk kr kb; kernel_rfl)
theorem pn_114 : ∀ x4, x4 < 5 → NamesE 1 1 4 x4 := by
  refine lt5 ?_ ?_ ?_ ?_ ?_ <;> (intro L a b vs kk kr kb; kernel_rfl)
theorem pn_115 : ∀ x4, x4 < 5 → NamesE 1 1 5 x4 := by
  refine lt5 ?_ ?_ ?_ ?_ ?_ <;> (intro L a b vs kk kr kb; kernel_rfl)
theorem pn_120 : ∀ x4, x4 < 5 → NamesE 1 2 0 x4 := by
  refine lt5 ?_ ?_ ?_ ?_ ?_ <;> (intro L a b vs kk kr kb; kernel_rfl)
theorem pn_121 : ∀ x4, x4 < 5 → NamesE 1 2 1 x4 := by
  refine lt5 ?_ ?_ ?_ ?_ ?_ <;> (intro L a b vs kk kr kb; kernel_rfl)
theorem pn_122 : ∀ x4, x4 < 5 → NamesE 1 2 2 x4 := by
  refine lt5 ?_ ?_ ?_ ?_ ?_ <;> (intro L a b vs kk kr kb; kernel_rfl)
theorem pn_123 : ∀ x4, x4 < 5 → NamesE 1 2 3 x4 := by
  refine lt5 ?_ ?_ ?_ ?_ ?_ <;> (intro L a b vs kk kr kb; kernel_rfl)
theorem pn_124 : ∀ x4, x4 < 5 → NamesE 1 2 4 x4 := by
  refine lt5 ?_ ?_ ?_ ?_ ?_ <;> (intro L a b vs kk kr kb; kernel_rfl)
theorem pn_125 : ∀ x4, x4 < 5 → NamesE 1 2 5 x4 := by
  refine lt5 ?_ ?_ ?_ ?_ ?_ <;> (intro L a b vs kk kr kb; kernel_rfl)
theorem pn_130 : ∀ x4, x4 < 5 → NamesE 1 3 0 x4 := by
  refine lt5 ?_ ?_ ?_ ?_ ?_ <;> (intro L a b vs kk kr kb; kernel_rfl)
theorem pn_131 : ∀ x4, x4 < 5 → NamesE 1 3 1 x4 := by
  refine lt5 ?_ ?_ ?_ ?_ ?_ <;> (intro L a b vs kk kr kb; kernel_rfl)
theorem pn_132 : ∀ x4, x4 < 5 → NamesE 1 3 2 x4 := by
  refine lt5 ?_ ?_ ?_ ?_ ?_ <;> (intro L a b vs kk kr kb; kernel_rfl)
theorem pn_133 : ∀ x4, x4 < 5 → NamesE 1 3 3 x4 := by
  refine lt5 ?_ ?_ ?_ ?_ ?_ <;> (intro L a b vs kk kr kb; kernel_rfl)
theorem pn_134 : ∀ x4, x4 < 5 → NamesE 1 3 4 x4 := by
  refine lt5 ?_ ?_ ?_ ?_ ?_ <;> (intro L a b vs kk kr kb; kernel_rfl)
theorem pn_135 : ∀ x4, x4 < 5 → NamesE 1 3 5 x4 := by
  refine lt5 ?_ ?_ ?_ ?_ ?_ <;> (intro L a b vs kk kr kb; kernel_rfl)
theorem pn_200 : ∀ x4, x4 < 5 → NamesE 2 0 0 x4 := by
  refine lt5 ?_ ?_ ?_ ?_ ?_ <;> (intro L a b vs kk kr kb; kernel_rfl)
theorem pn_201 : ∀ x4, x4 < 5 → NamesE 2 0 1 x4 := by
  refine lt5 ?_ ?_ ?_ ?_ ?_ <;> (intro L a b vs kk kr kb; kernel_rfl)
theorem pn_202 : ∀ x4, x4 < 5 → NamesE 2 0 2 x4 := by
  refine lt5 ?_ ?_ ?_ ?_ ?_ <;> (intro L a b vs kk kr kb; kernel_rfl)
theorem pn_203 : ∀ x4, x4 < 5 → NamesE 2 0 3 x4 := by
  refine lt5 ?_ ?_ ?_ ?_ ?_ <;> (intro L a b vs kk kr kb; kernel_rfl)
theorem pn_204 : ∀ x4, x4 < 5 → NamesE 2 0 4 x4 := by
  refine lt5 ?_ ?_ ?_ ?_ ?_ <;> (intro L a b vs kk kr kb; kernel_rfl)
theorem pn_205 : ∀ x4, x4 < 5 → NamesE 2 0 5 x4 := by
  refine lt5 ?_ ?_ ?_ ?_ ?_ <;> (intro L a b vs kk kr kb; kernel_rfl)
theorem pn_210 : ∀ x4, x4 < 5 → NamesE 2 1 0 x4 := by
  refine lt5 ?_ ?_ ?_ ?_ ?_ <;> (intro L a b vs kk kr kb; kernel_rfl)
theorem pn_211 : ∀ x4, x4 < 5 → NamesE 2 1 1 x4 := by
  refine lt5 ?_ ?_ ?_ ?_ ?_ <;> (intro L a b vs kk kr kb; kernel_rfl)
theorem pn_212 : ∀ x4, x4 < 5 → NamesE 2 1 2 x4 := by
  refine lt5 ?_ ?_ ?_ ?_ ?_ <;> (intro L a b vs kk kr kb; kernel_rfl)
theorem pn_213 : ∀ x4, x4 < 5 → NamesE 2 1 3 x4 := by
  refine lt5 ?_ ?_ ?_ ?_ ?_ <;> (intro L a b vs kk kr kb; kernel_rfl)
theorem pn_214 : ∀ x4, x4 < 5 → NamesE 2 1 4 x4 := by
  refine lt5 ?_ ?_ ?_ ?_ ?_ <;> (intro L a b vs kk kr kb; kernel_rfl)
theorem pn_215 : ∀ x4, x4 < 5 → NamesE 2 1 5 x4 := by
  refine lt5 ?_ ?_ ?_ ?_ ?_ <;> (intro L a b vs kk kr kb; kernel_rfl)
theorem pn_220 : ∀ x4, x4 < 5 → NamesE 2 2 0 x4 := by
  refine lt5 ?_ ?_ ?_ ?_ ?_ <;> (intro L a b vs kk kr kb; kernel_rfl)
theorem pn_221 : ∀ x4, x4 < 5 → NamesE 2 2 1 x4 := by
  refine lt5 ?_ ?_ ?_ ?_ ?_ <;> (intro L a b vs kk kr kb; kernel_rfl)
theorem pn_222 : ∀ x4, x4 < 5 → NamesE 2 2 2 x4 := by
  refine lt5 ?_ ?_ ?_ ?_ ?_ <;> (intro L a b vs kk kr kb; kernel_rfl)
theorem pn_223 : ∀ x4, x4 < 5 → NamesE 2 2 3 x4 := by
  refine lt5 ?_ ?_ ?_ ?_ ?_ <;> (intro L a b vs kk kr kb; kernel_rfl)
theorem pn_224 : ∀ x4, x4 < 5 → NamesE 2 2 4 x4 := by
  refine lt5 ?_ ?_ ?_ ?_ ?_ <;> (intro L a b vs kk kr kb; kernel_rfl)
theorem pn_225 : ∀ x4, x4 < 5 → NamesE 2 2 5 x4 := by
  refine lt5 ?_ ?_ ?_ ?_ ?_ <;> (intro L a b vs kk kr kb; kernel_rfl)
theorem pn_230 : ∀ x4, x4 < 5 → NamesE 2 3 0 x4 := by
  refine lt5 ?_ ?_ ?_ ?_ ?_ <;> (intro L a b vs kk kr kb; kernel_rfl)
theorem pn_231 : ∀ x4, x4 < 5 → NamesE 2 3 1 x4 := by
  refine lt5 ?_ ?_ ?_ ?_ ?_ <;> (intro L a b vs kk kr kb; kernel_rfl)
theorem pn_232 : ∀ x4, x4 < 5 → NamesE 2 3 2 x4 := by
  refine lt5 ?_ ?_ ?_ ?_ ?_ <;> (intro L a b vs kk kr kb; kernel_rfl)
theorem pn_233 : ∀ x4, x4 < 5 → NamesE 2 3 3 x4 := by
  refine lt5 ?_ ?_ ?_ ?_ ?_ <;> (intro L a b vs kk kr kb; kernel_rfl)
theorem pn_234 : ∀ x4, x4 < 5 → NamesE 2 3 4 x4 := by
  refine lt5 ?_ ?_ ?_ ?_ ?_ <;> (intro L a b vs kk kr kb; kernel_rfl)
theorem pn_235 : ∀ x4, x4 < 5 → NamesE 2 3 5 x4 := by
  refine lt5 ?_ ?_ ?_ ?_ ?_ <;> (intro L a b vs kk kr kb; kernel_rfl)
theorem pn_300 : ∀ x4, x4 < 5 → NamesE 3 0 0 x4 := by
  refine lt5 ?_ ?_ ?_ ?_ ?_ <;> (intro L a b vs kk kr kb; kernel_rfl)
theorem pn_301 : ∀ x4, x4 < 5 → NamesE 3 0 1 x4 := by
  refine lt5 ?_ ?_ ?_ ?_ ?_ <;> (intro L a b vs kk kr kb; kernel_rfl)
theorem pn_302 : ∀ x4, x4 < 5 → NamesE 3 0 2 x4 := by
  refine lt5 ?_ ?_ ?_ ?_ ?_ <;> (intro L a b vs kk kr kb; kernel_rfl)
theorem pn_303 : ∀ x4, x4 < 5 → NamesE 3 0 3 x4 := by
  refine lt5 ?_ ?_ ?_ ?_ ?_ <;> (intro L a b vs kk kr kb; kernel_rfl)
theorem pn_304 : ∀ x4, x4 < 5 → NamesE 3 0 4 x4 := by
  refine lt5 ?_ ?_ ?_ ?_ ?_ <;> (intro L a b vs kk kr kb; kernel_rfl)
theorem pn_305 : ∀ x4, x4 < 5 → NamesE 3 0 5 x4 := by
  refine lt5 ?_ ?_ ?_ ?_ ?_ <;> (intro L a b vs kk kr kb; kernel_rfl)
theorem pn_310 : ∀ x4, x4 < 5 → NamesE 3 1 0 x4 := by
  refine lt5 ?_ ?_ ?_ ?_ ?_ <;> (intro L a b vs kk kr kb; kernel_rfl)
theorem pn_311 : ∀ x4, x4 < 5 → NamesE 3 1 1 x4 := by
  refine lt5 ?_ ?_ ?_ ?_ ?_ <;> (intro L a b vs kk kr kb; kernel_rfl)
theorem pn_312 : ∀ x4, x4 < 5 → NamesE 3 1 2 x4 := by
  refine lt5 ?_ ?_ ?_ ?_ ?_ <;> (intro L a b vs kk kr kb; kernel_rfl)
theorem pn_313 : ∀ x4, x4 < 5 → NamesE 3 1 3 x4 := by
  refine lt5 ?_ ?_ ?_ ?_ ?_ <;> (intro L a b vs kk kr kb; kernel_rfl)
theorem pn_314 : ∀ x4, x4 < 5 → NamesE 3 1 4 x4 := by
  refine lt5 ?_ ?_ ?_ ?_ ?_ <;> (intro L a b vs kk kr kb; kernel_rfl)
theorem pn_315 : ∀ x4, x4 < 5 → NamesE 3 1 5 x4 := by
  refine lt5 ?_ ?_ ?_ ?_ ?_ <;> (intro L a b vs kk kr kb; kernel_rfl)
theorem pn_320 : ∀ x4, x4 < 5 → NamesE 3 2 0 x4 := by
  refine lt5 ?_ ?_ ?_ ?_ ?_ <;> (intro L a b vs kk kr kb; kernel_rfl)
theorem pn_321 : ∀ x4, x4 < 5 → NamesE 3 2 1 x4 := by
  refine lt5 ?_ ?_ ?_ ?_ ?_ <;> (intro L a b vs kk kr kb; kernel_rfl)
theorem pn_322 : ∀ x4, x4 < 5 → NamesE 3 2 2 x4 := by
  refine lt5 ?_ ?_ ?_ ?_ ?_ <;> (intro L a b vs kk kr kb; kernel_rfl)
theorem pn_323 : ∀ x4, x4 < 5 → NamesE 3 2 3 x4 := by
  refine lt5 ?_ ?_ ?_ ?_ ?_ <;> (intro L a b vs kk kr kb; kernel_rfl)
theorem pn_324 : ∀ x4, x4 < 5 → NamesE 3 2 4 x4 := by
  refine lt5 ?_ ?_ ?_ ?_ ?_ <;> (intro L a b vs kk kr kb; kernel_rfl)
theorem pn_325 : ∀ x4, x4 < 5 → NamesE 3 2 5 x4 := by
  refine lt5 ?_ ?_ ?_ ?_ ?_ <;> (intro L a b vs kk kr kb; kernel_rfl)
theorem pn_330 : ∀ x4, x4 < 5 → NamesE 3 3 0 x4 := by
  refine lt5 ?_ ?_ ?_ ?_ ?_ <;> (intro L a b vs kk kr kb; kernel_rfl)
theorem pn_331 : ∀ x4, x4 < 5 → NamesE 3 3 1 x4 := by
  refine lt5 ?_ ?_ ?_ ?_ ?_ <;> (intro L a b vs kk kr kb; kernel_rfl)
theorem pn_332 : ∀ x4, x4 < 5 → NamesE 3 3 2 x4 := by
  refine lt5 ?_ ?_ ?_ ?_ ?_ <;> (intro L a b vs kk kr kb; kernel_rfl)
theorem pn_333 : ∀ x4, x4 < 5 → NamesE 3 3 3 x4 := by
  refine lt5 ?_ ?_ ?_ ?_ ?_ <;> (intro L a b vs kk kr kb; kernel_rfl)
theorem pn_334 : ∀ x4, x4 < 5 → NamesE 3 3 4 x4 := by
  refine lt5 ?_ ?_ ?_ ?_ ?_ <;> (intro L a b vs kk kr kb; kernel_rfl)
theorem pn_335 : ∀ x4, x4 < 5 → NamesE 3 3 5 x4 := by
  refine lt5 ?_ ?_ ?_ ?_ ?_ <;> (intro L a b vs kk kr kb; kernel_rfl)
theorem names_lit : ∀ x1, x1 < 4 → ∀ x2, x2 < 4 → ∀ x3, x3 < 6 → ∀ x4, x4 < 5 → NamesE x1 x2 x3 x4 :=
  lt4 (lt4 (lt6 pn_000 pn_001 pn_002 pn_003 pn_004 pn_005) (lt6 pn_010 pn_011 pn_012 pn_013 pn_014 pn_015) (lt6 pn_020 pn_021 pn_022 pn_023 pn_024 pn_025) (lt6 pn_030 pn_031 pn_032 pn_033 pn_034 pn_035)) (lt4 (lt6 pn_100 pn_101 pn_102 pn_103 pn_104 pn_105) (lt6 pn_110 pn_111 pn_112 pn_113 pn_114 pn_115) (lt6 pn_120 pn_121 pn_122 pn_123 pn_124 pn_125) (lt6 pn_130 pn_131 pn_132 pn_133 pn_134 pn_135)) (lt4 (lt6 pn_200 pn_201 pn_202 pn_203 pn_204 pn_205) (lt6 pn_210 pn_211 pn_212 pn_213 pn_214 pn_215) (lt6 pn_220 pn_221 pn_222 pn_223 pn_224 pn_225) (lt6 pn_230 pn_231 pn_232 pn_233 pn_234 pn_235)) (lt4 (lt6 pn_300 pn_301 pn_302 pn_303 pn_304 pn_305) (lt6 pn_310 pn_311 pn_312 pn_313 pn_314 pn_315) (lt6 pn_320 pn_321 pn_322 pn_323 pn_324 pn_325) (lt6 pn_330 pn_331 pn_332 pn_333 pn_334 pn_335))
end
end Mine
namespace Mine
open PySem
noncomputable section
def okK : K := fun v h => match v with | .bool b => @Bool.rec (fun _ => Bool) false (match h.t.get 0 with | some .tab => true | _ => false) b | _ => false
def RB (l : List V) (h : Hp) : Bool := sBlock lawB l h (fun _ h => okK .none h) okK (fun _ _ => false)
theorem pb_0 (a b : Int) : RB lC (HC a b (vsT false false false false false false)) = true := by kernel_rfl
theorem pb_1 (a b : Int) : RB lC (HC a b (vsT true false false false false false)) = true := by kernel_rfl
theorem pb_2 (a b : Int) : RB lC (HC a b (vsT false true false false false false)) = true := by kernel_rfl
theorem pb_3 (a b : Int) : RB lC (HC a b (vsT true true false false false false)) = true := by kernel_rfl
theorem pb_4 (a b : Int) : RB lC (HC a b (vsT false false true false false false)) = true := by kernel_rfl
theorem pb_5 (a b : Int) : RB lC (HC a b (vsT true false true false false false)) = true := by kernel_rfl
theorem pb_6 (a b : Int) : RB lC (HC a b (vsT false true true false false false)) = true := by kernel_rfl
theorem pb_7 (a b : Int) : RB lC (HC a b (vsT true true true false false false)) = true := by kernel_rfl
theorem pb_8 (a b : Int) : RB lC (HC a b (vsT false false false true false false)) = true := by kernel_rfl
theorem pb_9 (a b : Int) : RB lC (HC a b (vsT true false false true false false)) = true := by kernel_rfl
theorem pb_10 (a b : Int) : RB lC (HC a b (vsT false true false true false false)) = true := by kernel_rfl
theorem pb_11 (a b : Int) : RB lC (HC a b (vsT true true false true false false)) = true := by kernel_rfl
theorem pb_12 (a b : Int) : RB lC (HC a b (vsT false false true true false false)) = true := by kernel_rfl
theorem pb_13 (a b : Int) : RB lC (HC a b (vsT true false true true false false)) = true := by kernel_rfl
theorem pb_14 (a b : Int) : RB lC (HC a b (vsT false true true true false false)) = true := by kernel_rfl
theorem pb_15 (a b : Int) : RB lC (HC a b (vsT true true true true false false)) = true := by kernel_rfl
theorem pb_16 (a b : Int) : RB lC (HC a b (vsT false false false false true false)) = true := by kernel_rfl
theorem pb_17 (a b : Int) : RB lC (HC a b (vsT true false false false true false)) = true := by kernel_rfl
theorem pb_18 (a b : Int) : RB lC (HC a b (vsT false true false false true false)) = true := by kernel_rfl
theorem pb_19 (a b : Int) : RB lC (HC a b (vsT true true false false true false)) = true := by kernel_rfl
theorem pb_20 (a b : Int) : RB lC (HC a b (vsT false false true false true false)) = true := by kernel_rfl
theorem pb_21 (a b : Int) : RB lC (HC a b (vsT true false true false true false)) = true := by kernel_rfl
theorem pb_22 (a b : Int) : RB lC (HC a b (vsT false true true false true false)) = true := by kernel_rfl
theorem pb_23 (a b : Int) : RB lC (HC a b (vsT true true true false true false)) = true := by kernel_rfl
theorem pb_24 (a b : Int) : RB lC (HC a b (vsT false false false true true false)) = true := by kernel_rfl
theorem pb_25 (a b : Int) : RB lC (HC a b (vsT true false false true true false)) = true := by kernel_rfl
theorem pb_26 (a b : Int) : RB lC (HC a b (vsT false true false true true false)) = true := by kernel_rfl
theorem pb_27 (a b : Int) : RB lC (HC a b (vsT true true false true true false)) = true := by kernel_rfl
theorem pb_28 (a b : Int) : RB lC (HC a b (vsT false false true true true false)) = true := by kernel_rfl
theorem pb_29 (a b : Int) : RB lC (HC a b (vsT true false true true true false)) = true := by kernel_rfl
theorem pb_30 (a b : Int) : RB lC (HC a b (vsT false true true true true false)) = true := by kernel_rfl
theorem pb_31 (a b : Int) : RB lC (HC a b (vsT true true true true true false)) = true := by kernel_rfl
theorem pb_32 (a b : Int) : RB lC (HC a b (vsT false false false false false true)) = true := by kernel_rfl
theorem pb_33 (a b : Int) : RB lC (HC a b (vsT true false false false false true)) = true := by kernel_rfl
theorem pb_34 (a b : Int) : RB lC (HC a b (vsT false true false false false true)) = true := by kernel_rfl
theorem pb_35 (a b : Int) : RB lC (HC a b (vsT true true false false false true)) = true := by kernel_rfl
theorem pb_36 (a b : Int) : RB lC (HC a b (vsT false false true false false true)) = true := by kernel_rfl
theorem pb_37 (a b : Int) : RB lC (HC a b (vsT true false true false false true)) = true := by kernel_rfl
theorem pb_38 (a b : Int) : RB lC (HC a b (vsT false true true false false true)) = true := by kernel_rfl
theorem pb_39 (a b : Int) : RB lC (HC a b (vsT true true true false false true)) = true := by kernel_rfl
theorem pb_40 (a b : Int) : RB lC (HC a b (vsT false false false true false true)) = true := by kernel_rfl
theorem pb_41 (a b : Int) : RB lC (HC a b (vsT true false false true false true)) = true := by kernel_rfl
theorem pb_42 (a b : Int) : RB lC (HC a b (vsT false true false true false true)) = true := by kernel_rfl
theorem pb_43 (a b : Int) : RB lC (HC a b (vsT true true false true false true)) = true := by kernel_rfl
theorem pb_44 (a b : Int) : RB lC (HC a b (vsT false false true true false true)) = true := by kernel_rfl
theorem pb_45 (a b : Int) : RB lC (HC a b (vsT true false true true false true)) = true := by kernel_rfl
theorem pb_46 (a b : Int) : RB lC (HC a b (vsT false true true true false true)) = true := by kernel_rfl
theorem pb_47 (a b : Int) : RB lC (HC a b (vsT true true true true false true)) = true := by kernel_rfl
theorem pb_48 (a b : Int) : RB lC (HC a b (vsT false false false false true true)) = true := by kernel_rfl
theorem pb_49 (a b : Int) : RB lC (HC a b (vsT true false false false true true)) = true := by kernel_rfl
theorem pb_50 (a b : Int) : RB lC (HC a b (vsT false true false false true true)) = true := by kernel_rfl
theorem pb_51 (a b : Int) : RB lC (HC a b (vsT true true false false true true)) = true := by kernel_rfl
theorem pb_52 (a b : Int) : RB lC (HC a b (vsT false false true false true true)) = true := by kernel_rfl
theorem pb_53 (a b : Int) : RB lC (HC a b (vsT true false true false true true)) = true := by kernel_rfl
theorem pb_54 (a b : Int) : RB lC (HC a b (vsT false true true false true true)) = true := by kernel_rfl
theorem pb_55 (a b : Int) : RB lC (HC a b (vsT true true true false true true)) = true := by kernel_rfl
theorem pb_56 (a b : Int) : RB lC (HC a b (vsT false false false true true true)) = true := by kernel_rfl
theorem pb_57 (a b : Int) : RB lC (HC a b (vsT true false false true true true)) = true := by kernel_rfl
theorem pb_58 (a b : Int) : RB lC (HC a b (vsT false true false true true true)) = true := by kernel_rfl
theorem pb_59 (a b : Int) : RB lC (HC a b (vsT true true false true true true)) = true := by kernel_rfl
theorem pb_60 (a b : Int) : RB lC (HC a b (vsT false false true true true true)) = true := by kernel_rfl
theorem pb_61 (a b : Int) : RB lC (HC a b (vsT true false true true true true)) = true := by kernel_rfl
theorem pb_62 (a b : Int) : RB lC (HC a b (vsT false true true true true true)) = true := by kernel_rfl
theorem pb_63 (a b : Int) : RB lC (HC a b (vsT true true true true true true)) = true := by kernel_rfl
theorem rest_ok (a b : Int) : ∀ t0 t1 t2 t3 t4 t5 : Bool, RB lC (HC a b (vsT t0 t1 t2 t3 t4 t5)) = true
  | false, false, false, false, false, false => pb_0 a b
  | true, false, false, false, false, false => pb_1 a b
  | false, true, false, false, false, false => pb_2 a b
  | true, true, false, false, false, false => pb_3 a b
  | false, false, true, false, false, false => pb_4 a b
  | true, false, true, false, false, false => pb_5 a b
  | false, true, true, false, false, false => pb_6 a b
  | true, true, true, false, false, false => pb_7 a b
  | false, false, false, true, false, false => pb_8 a b
  | true, false, false, true, false, false => pb_9 a b
  | false, true, false, true, false, false => pb_10 a b
  | true, true, false, true, false, false => pb_11 a b
  | false, false, true, true, false, false => pb_12 a b
  | true, false, true, true, false, false => pb_13 a b
  | false, true, true, true, false, false => pb_14 a b
  | true, true, true, true, false, false => pb_15 a b
  | false, false, false, false, true, false => pb_16 a b
  | true, false, false, false, true, false => pb_17 a b
  | false, true, false, false, true, false => pb_18 a b
  | true, true, false, false, true, false => pb_19 a b
  | false, false, true, false, true, false => pb_20 a b
  | true, false, true, false, true, false => pb_21 a b
  | false, true, true, false, true, false => pb_22 a b
  | true, true, true, false, true, false => pb_23 a b
  | false, false, false, true, true, false => pb_24 a b
  | true, false, false, true, true, false => pb_25 a b
  | false, true, false, true, true, false => pb_26 a b
  | true, true, false, true, true, false => pb_27 a b
  | false, false, true, true, true, false => pb_28 a b
  | true, false, true, true, true, false => pb_29 a b
  | false, true, true, true, true, false => pb_30 a b
  | true, true, true, true, true, false => pb_31 a b
  | false, false, false, false, false, true => pb_32 a b
  | true, false, false, false, false, true => pb_33 a b
  | false, true, false, false, false, true => pb_34 a b
  | true, true, false, false, false, true => pb_35 a b
  | false, false, true, false, false, true => pb_36 a b
  | true, false, true, false, false, true => pb_37 a b
  | false, true, true, false, false, true => pb_38 a b
  | true, true, true, false, false, true => pb_39 a b
  | false, false, false, true, false, true => pb_40 a b
  | true, false, false, true, false, true => pb_41 a b
  | false, true, false, true, false, true => pb_42 a b
  | true, true, false, true, false, true => pb_43 a b
  | false, false, true, true, false, true => pb_44 a b
  | true, false, true, true, false, true => pb_45 a b
  | false, true, true, true, false, true => pb_46 a b
  | true, true, true, true, false, true => pb_47 a b
  | false, false, false, false, true, true => pb_48 a b
  | true, false, false, false, true, true => pb_49 a b
  | false, true, false, false, true, true => pb_50 a b
  | true, true, false, false, true, true => pb_51 a b
  | false, false, true, false, true, true => pb_52 a b
  | true, false, true, false, true, true => pb_53 a b
  | false, true, true, false, true, true => pb_54 a b
  | true, true, true, false, true, true => pb_55 a b
  | false, false, false, true, true, true => pb_56 a b
  | true, false, false, true, true, true => pb_57 a b
  | false, true, false, true, true, true => pb_58 a b
  | true, true, false, true, true, true => pb_59 a b
  | false, false, true, true, true, true => pb_60 a b
  | true, false, true, true, true, true => pb_61 a b
  | false, true, true, true, true, true => pb_62 a b
  | true, true, true, true, true, true => pb_63 a b
end
end Mine
namespace Mine
open PySem
noncomputable section
theorem sBlock_app : ∀ (A B : List S) (l : List V) (h : Hp) (kn : List V → Hp → Bool) (kr : K) (kb : List V → Hp → Bool), sBlock (A ++ B) l h kn kr kb = sBlock A l h (fun l h => sBlock B l h kn kr kb) kr kb
  | [], B, l, h, kn, kr, kb => rfl
  | s :: A, B, l, h, kn, kr, kb => by
    show s l h (fun l h => sBlock (A ++ B) l h kn kr kb) kr kb = s l h (fun l h => sBlock A l h (fun l h => sBlock B l h kn kr kb) kr kb) kr kb
    rw [show (fun l h => sBlock (A ++ B) l h kn kr kb) = fun l h => sBlock A l h (fun l h => sBlock B l h kn kr kb) kr kb from funext fun l => funext fun h => sBlock_app A B l h kn kr kb]
theorem p1_all : P1 := by
  intro m hm r hr es he
  have h := chkA_all m hm
  unfold chkA4 at h
  obtain ⟨h0, h⟩ := chk_of h
  obtain ⟨h1, h⟩ := chk_of h
  obtain ⟨h2, h3⟩ := chk_of h
  have key : ∀ r, chkA m r = true → f__law_apart [.ref 1, .int (Int.ofNat r)] (mkHp (osA (pairsOf m))) (probeA (pairsOf m) es) = true := fun r h => by
    unfold chkA at h
    rw [nthO_eq, he] at h
    exact h
  match r, hr with
  | 0, _ => exact key 0 h0
  | 1, _ => exact key 1 h1
  | 2, _ => exact key 2 h2
  | 3, _ => exact key 3 h3
  | r + 4, hr => exact absurd hr (by omega)
def l0 (L : Nat) : List V := [.adr L, .unb, .unb, .unb, .unb, .unb, .unb, .unb, .unb, .unb, .unb, .unb, .unb, .unb, .unb, .unb, .unb]
def lawR (l : List V) (h : Hp) : Bool := sBlock (lawA ++ (lawK :: lawB)) l h (fun _ h => okK .none h) okK (fun _ _ => false)
def KN (L : Nat) : K := fun v h => setMany [2, 3] [.ref 9, v] (l1 L) fun l => lawR l h
def KT (L : Nat) (fN : Fn) : K := fun v h => evs [cCall fN [cOp2 oItemL (cVar 1) (cVal (.int 1))]] (l1 L) h fun vs h => setMany [2, 3] (v :: vs) (l1 L) fun l => lawR l h
def lawG (fT fN : Fn) : S := sSets [2, 3] [cCall fT [cOp2 oItemL (cVar 1) (cVal (.int 0))], cCall fN [cOp2 oItemL (cVar 1) (cVal (.int 1))]]
theorem law_0 (L : Nat) (fC : Fn) (R : List V → Hp → Bool) : sSet 1 (cCall fC [cVar 0]) (l0 L) H0 R okK (fun _ _ => false) = fC [.adr L] H0 (fun v h => R (setV v (l0 L) 1) h) := by kernel_rfl
theorem law_1 (L : Nat) (a b : Int) (fT fN : Fn) : lawG fT fN (setV (.ref 1) (l0 L) 1) (H1 a b) lawR okK (fun _ _ => false) = fT [.int a] (H1 a b) (KT L fN) := by kernel_rfl
theorem law_2 (L : Nat) (a b : Int) (vs : List V) (fN : Fn) : KT L fN (.ref 9) (H2 a b vs) = fN [.int b] (H2 a b vs) (KN L) := by kernel_rfl
theorem law_s (L : Nat) (ns : List Int) : f_lawT L ns [.adr L] H0 okK = sSet 1 (cCall (f_cellsP L ns) [cVar 0]) (l0 L) H0 (fun l h => lawG f__law_ties f__law_names l h lawR okK (fun _ _ => false)) okK (fun _ _ => false) := rfl
theorem cut_eq (A B : List S) (s : S) (l : List V) (h : Hp) (kn : List V → Hp → Bool) (kr : K) (kb : List V → Hp → Bool) : sBlock (A ++ (s :: B)) l h kn kr kb = sBlock A l h (fun l h => s l h (fun l h => sBlock B l h kn kr kb) kr kb) kr kb := by
  rw [sBlock_app]
  rfl
theorem KN_eq (L : Nat) : KN L = K2 L (fun l h => sBlock lawB l h (fun _ h => okK .none h) okK (fun _ _ => false)) okK (fun _ _ => false) := by
  unfold KN K2 lawR
  simp only [cut_eq]
theorem modNat (x : Int) (m : Nat) (hm : 0 < (m : Int)) : ∃ r, r < m ∧ x.fmod (m : Int) = Int.ofNat r := by
  have h0 := Int.fmod_nonneg_of_pos x hm
  have h1 := Int.fmod_lt_of_pos x hm
  obtain ⟨r, hr⟩ := Int.eq_ofNat_of_zero_le h0
  exact ⟨r, by omega, hr⟩
theorem law_ok (L : Nat) (ns : List Int) : f_lawT L ns [.adr L] H0 okK = true := by
  rw [law_s, law_0]
  refine cells_ok L ns _ fun a b => ?_
  rw [law_1, ties_all, law_2, names_eq]
  obtain ⟨x1, h1, e1⟩ := modNat (b.fdiv 120) 4 (by decide)
  obtain ⟨x2, h2, e2⟩ := modNat (b.fdiv 480) 4 (by decide)
  obtain ⟨x3, h3, e3⟩ := modNat b 6 (by decide)
  obtain ⟨x4, h4, e4⟩ := modNat (b.fdiv 6) 5 (by decide)
  have e1 : (b.fdiv 120).fmod 4 = Int.ofNat x1 := e1
  have e2 : (b.fdiv 480).fmod 4 = Int.ofNat x2 := e2
  have e3 : b.fmod 6 = Int.ofNat x3 := e3
  have e4 : (b.fdiv 6).fmod 5 = Int.ofNat x4 := e4
  rw [e1, e2, e3, e4, KN_eq, names_lit x1 h1 x2 h2 x3 h3 x4 h4]
  exact rest_ok a b _ _ _ _ _ _
end
end Mine
namespace Mine
open PySem PySem.W PyProof.Rows

-- the module's table
noncomputable def esOf (P : Params) : List DictEntry := match (kfrag.heap_1 P).lookup 22 with | some ⟨_, _, .dict es _, _⟩ => es.toList | _ => []
noncomputable def rawOf (P : Params) : List (Str × Tok × Value) := (esOf P).map fun e => match e.key with | .str k u => (k, u, e.val) | _ => ("", 0, .none)
def entOf (P : Params) (r : Str × Tok × Value) : DictEntry := ⟨PyData.keyHash P r.1, .str r.1 r.2.1, r.2.2⟩
noncomputable def kvsOf (P : Params) : List (Str × Value) := (rawOf P).map fun r => (r.1, r.2.2)
theorem es_eq (P : Params) : esOf P = (rawOf P).map (entOf P) := by kernel_rfl
theorem dict22 (P : Params) : (kfrag.heap_1 P).lookup 22 = some (dictOf (esOf P) 48) := by kernel_rfl
noncomputable def nodupS (l : List Str) : Bool := match l with
  | [] => true
  | x :: r => !(r.any fun y => decide (y = x)) && nodupS r
theorem nodupS_of : ∀ {l : List Str}, nodupS l = true → l.Nodup
  | [], _ => List.nodup_nil
  | x :: r, h => by
    simp only [nodupS, Bool.and_eq_true, Bool.not_eq_true', List.any_eq_false, decide_eq_true_eq] at h
    rw [List.nodup_cons]
    exact ⟨fun hm => h.1 x hm rfl, nodupS_of h.2⟩
theorem raw_nodup (P : Params) : nodupS ((kvsOf P).map (·.1)) = true := by kernel_rfl
def tokOne (o : Option Int) (v : Option Value) : Bool := match o, v with
  | none, none => true
  | some i, some (.int j _) => decide (i = j)
  | _, _ => false
theorem tokOne_of {o : Option Int} {v : Option Value} (h : tokOne o v = true) : (o = none ∧ v = none) ∨ ∃ i t, o = some i ∧ v = some (.int i t) := by
  unfold tokOne at h
  split at h
  · exact .inl ⟨rfl, rfl⟩
  · rename_i i j t
    have e : i = j := by simpa using h
    subst e
    exact .inr ⟨i, t, rfl, rfl⟩
  · cases h
def okTok (kvs : List (Str × Value)) (e : Tx × Option Int) : Bool := tokOne e.2 (valueAt kvs (toStr e.1))
theorem tok_ok (P : Params) : tokG.all (okTok (kvsOf P)) = true := by kernel_rfl
theorem pairs_raw {prog : Program} {w : World} : ∀ raw : List (Str × Tok × Value), Pairs (PySem.strKind prog w) (raw.map (entOf w.params)) (raw.map fun r => (r.1, r.2.2))
  | [] => Pairs.nil
  | r :: rs => Pairs.cons (strKind_is prog w r.1 r.2.1) rfl (pairs_raw rs)
theorem isDict22 (prog : Program) (w : World) : (dictOf (esOf w.params) 48).IsDictOf (PySem.strKind prog w) (kvsOf w.params) := by
  refine ⟨(esOf w.params).toArray, 48, ⟨rfl, rfl, rfl⟩, rfl, fun e he => ?_, ?_, nodupS_of (raw_nodup w.params)⟩
  · have he' : e ∈ esOf w.params := by simpa using he
    rw [es_eq] at he'
    obtain ⟨r, _, rfl⟩ := List.mem_map.mp he'
    exact ⟨r.1, strKind_is prog w r.1 r.2.1, rfl⟩
  · have := pairs_raw (prog := prog) (w := w) (rawOf w.params)
    rw [← es_eq] at this
    exact this
-- the names
theorem names_tab (P : Params) : mgTab.map (fun p => nsIn (kfrag.heap_1 P) mainGlobals p.1) = mgTab.map (fun p => some (some p.2)) := by kernel_rfl
theorem names_none (P : Params) : biNames.map (fun x => nsIn (kfrag.heap_1 P) mainGlobals x) = biNames.map (fun _ => some none) := by kernel_rfl

section
variable {prog : Program} {w : World} {s₁ : Shared} {mg mb : Str → Option Value} {loose : List Str} {mean : ExcName → Option Value} {p : Program}
abbrev wdOf (prog : Program) (w : World) (s₁ : Shared) (mg mb : Str → Option Value) : Wd := ⟨prog, w, s₁.os, mask s₁.heap [(87 : Nat)], (125 : Nat), mg, mb⟩
theorem mask87 {h : Heap} {b : Addr} {o : Obj} (h87 : h.get? 87 = some (tabObj #[])) (e : h.get? b = some o) (hn : o ≠ tabObj #[]) : (mask h [(87 : Nat)]).get? b = some o := by
  rw [mask_get, if_neg]
  · exact e
  · intro hm
    have : b = (87 : Nat) := List.mem_singleton.mp hm
    rw [this, h87] at e
    cases e
    exact hn rfl
theorem mask_ns {h : Heap} {a : Addr} {m : Str → Option Value} (h87 : h.get? 87 = some (tabObj #[])) (x : h.Ns a m) : (mask h [(87 : Nat)]).Ns a m :=
  let ⟨o, es, ep, e, hd, r⟩ := x; ⟨o, es, ep, mask87 h87 e (fun q => by rw [q] at hd; cases hd), hd, r⟩
theorem mask_K {h : Heap} {P : Params} (h87 : h.get? 87 = some (tabObj #[])) (X : (kfrag.heap_1 P).In h) : (kfrag.heap_1 P).In (mask h [(87 : Nat)]) := fun b o e => by
  rw [mask_get, if_neg]
  · exact X b o e
  · intro hm
    have hb : b = (87 : Nat) := List.mem_singleton.mp hm
    rw [hb] at e
    have : (kfrag.heap_1 P).lookup (87 : Nat) = none := by kernel_rfl
    rw [this] at e; cases e
theorem baseOK (T : Top p loose mean mg mb s₁.heap) (X : (kfrag.heap_1 w.params).In s₁.heap) (h87 : s₁.heap.get? 87 = some (tabObj #[])) : BaseOK (wdOf prog w s₁ mg mb) where
  g := mask_ns h87 T.g
  b := mask_ns h87 T.b
  bb := T.builtins
  bi := fun x hx => mg_none_of X T.g (List.map_inj_left.mp (names_none w.params) x hx)
  nolimit := let ⟨mc, a, r⟩ := T.nolimit; ⟨mc, mask_ns h87 a, r⟩
theorem lawF (T : Top p loose mean mg mb s₁.heap) (X : (kfrag.heap_1 w.params).In s₁.heap) (h87 : s₁.heap.get? 87 = some (tabObj #[])) (hf : ((prog.main.file : Str) == Str.ofString "/claim/cut.py") = true)
    (ht : (prog.main.scope.names.lookup ("super" : Str)).isSome = false) : LawF (wdOf prog w s₁ mg mb) w.params where
  af := ⟨mask_K h87 X, rfl, hf, ht, mg_none_of X T.g (by kernel_rfl)⟩
  bu := let ⟨bm, ob, a1, a2, a3, a4, a5, a6⟩ := T.bmain; ⟨⟨bm, ob, mask_ns h87 T.g, a1, a2, mask87 h87 a3 (fun q => by rw [q] at a4; cases a4), a4, a5, a6⟩⟩
  mg := fun x v h => mg_of X T.g (List.map_inj_left.mp (names_tab w.params) (x, v) (mem_of_lookup h))
  tok := by
    refine ⟨mg_of X T.g (by kernel_rfl), by decide, kvsOf w.params, Heap.dictOf_iff.mpr ⟨_, mask_K h87 X _ _ (dict22 w.params), isDict22 prog w⟩, fun e he => ?_⟩
    have h := List.all_eq_true.mp (tok_ok w.params) e he
    rcases tokOne_of h with ⟨h1, h2⟩ | ⟨i, t, h1, h2⟩
    · rw [h1]; exact h2
    · rw [h1]; exact ⟨t, h2⟩
end
/-- the script -/
theorem items_int {R : WRecords} : ∀ {xs : List WData}, WShape.hasItems R xs .int = true → ∃ ns : List Int, xs = ns.map WData.int
  | [], _ => ⟨[], rfl⟩
  | x :: xs, h => by
    simp only [WShape.hasItems, Bool.and_eq_true] at h
    obtain ⟨i, rfl⟩ := hasW_int h.1
    obtain ⟨ns, rfl⟩ := items_int h.2
    exact ⟨i :: ns, rfl⟩
theorem well_ints {P : Params} {h : Heap} {ρ : List Addr} : ∀ {ns : List Int} {vs : List Value}, WellAll P h vs (ns.map WData.int) → VRs ρ (mapL V.int ns) vs
  | [], vs, x => by cases x; trivial
  | i :: ns, vs, x => by
    cases x with
    | cons a b => cases a with
      | int _ t => exact ⟨⟨t, rfl⟩, well_ints b⟩
end Mine
namespace Mine
open PySem PySem.W PyProof.Rows

abbrev rr : RowW := PySem.Challenge.rw_yj0020_01.row.toRowW
theorem srStart {prog : Program} {w : World} {s₁ : Shared} {mg mb : Str → Option Value} (B : BaseOK (wdOf prog w s₁ mg mb)) (h87 : s₁.heap.get? 87 = some (tabObj #[])) (hg : s₁.gens = #[]) :
    SR (wdOf prog w s₁ mg mb) [] (mask s₁.heap [(87 : Nat)]) [(87 : Nat)] [] H0 s₁ := by
  refine ⟨⟨rfl, by simp, fun k o e => ?_, fun a ha => ?_, fun b o e => (mask_sub e).1, fun a ha => by rw [mask_get, if_pos ha], fun b o e => e, rfl, ?_, B⟩,
    ⟨rfl, fun lc h => (nomatch h), fun i lc x e => (by cases e), List.Pairwise.nil, fun lc h => (nomatch h), fun lc h => (nomatch h)⟩⟩
  · cases k with
    | zero => cases e; exact ⟨87, rfl, rfl, #[], h87, trivial⟩
    | succ k =>
      have e' : (Tr.node .tab .nil .nil).get (k + 1) = some o := e
      rw [Tr.get_succ] at e'
      split at e' <;> cases e'
  · rw [List.mem_singleton.mp ha]; exact ⟨_, h87⟩
  · rw [hg]; intro x hx; simp at hx
theorem okK_of {x : V} {H : Hp} (h : okK x H = true) : x = .bool true ∧ H.t.get 0 = some .tab := by
  cases x with
  | bool b =>
    have h' : @Bool.rec (fun _ => Bool) false (match H.t.get 0 with | some .tab => true | _ => false) b = true := h
    rcases rec_tt h' with ⟨rfl, h2⟩ | ⟨_, h2⟩
    · refine ⟨rfl, ?_⟩
      revert h2
      cases H.t.get 0 with
      | none => intro h; cases h
      | some o => cases o <;> intro h <;> first | rfl | cases h
    · cases h2
  | _ => exact absurd h Bool.false_ne_true
theorem fin {w : World} {s₀ s₁ : Shared} {mg mb : Str → Option Value} {p : Program} {loose : List Str} {mean : ExcName → Option Value} {a : Addr} {args : List WData} {vals : List Value}
    (T : Top p loose mean mg mb s₁.heap) (X : (kfrag.heap_1 w.params).In s₁.heap) (h87 : s₁.heap.get? 87 = some (tabObj #[])) (hmg : mg "law" = some (.ref a)) (hg : s₁.gens = #[])
    (hpre : rr.claim.pre args = true) (hwl : WellAll w.params s₁.heap vals args) :
    wpAny (model rr.prog w) callerA (PySem.call (.ref a) vals) (fun v s' => GoodWG rr.claim (classAt s₀.heap) (ExcName.means s₀.heap) args s₁ (.ok (.ret v)) s')
      (fun e s' => GoodWG rr.claim (classAt s₀.heap) (ExcName.means s₀.heap) args s₁ (.error e) s') s₁ := by
  obtain ⟨d, r, rfl, hx, hr⟩ := hasAllW_cons (pre_splitW hpre).1
  have hr := hasAllW_nil hr
  subst hr
  obtain ⟨xs, rfl, hi⟩ := hasW_list hx
  obtain ⟨ns, rfl⟩ := items_int hi
  cases hwl with
  | cons h1 h2 =>
  cases h2
  cases h1 with
  | @list L vs _ hL hall =>
  have ha : mg "law" = some (.ref (222 : Nat)) := mg_of X T.g (by kernel_rfl)
  rw [hmg] at ha
  cases ha
  have lf : LawF (wdOf rr.prog w s₁ mg mb) w.params := lawF T X h87 (by kernel_rfl) (by kernel_rfl)
  have B : BaseOK (wdOf rr.prog w s₁ mg mb) := baseOK T X h87
  have sc : ScrAt (wdOf rr.prog w s₁ mg mb) L ns := ⟨vs, ⟨0, mask87 h87 hL (fun q => by cases q)⟩, fun ρ => well_ints hall⟩
  have R := srStart B h87 hg
  have hroom : Room 7 callerA := ⟨rfl, by decide, by decide⟩
  refine ref_lawT lf p1_all sc callerA _ s₁ _ _ [] [] H0 okK _ [.ref L] [.adr L] hroom R ⟨rfl, trivial⟩ (law_ok L ns) fun v x ρ' H' s' hp R' r' hk => ?_
  obtain ⟨rfl, ht⟩ := okK_of hk
  cases r'
  obtain ⟨b, hb, e87, ps, hps, _⟩ := R'.h.obj 0 _ ht
  subst e87
  have hcode : isCodeTable s₁.heap 87 := (CodeHd.tab (codeHd_of_K X (c := (91 : Nat)) (P := (87 : Nat)) (by kernel_rfl)) h87).isCodeTable
  refine ⟨.inl ⟨.bool true, .bool true, [], rfl, raisesW_false (fun ct h => (nomatch h)), .bool true, by wrow_post, fun _ => ⟨List.nodup_nil, fun a h => (nomatch h)⟩⟩, ⟨fun b o e => ?_, fun b o e => ?_⟩, R'.h.os, R'.h.bare⟩
  · by_cases q : b = (87 : Nat)
    · subst q
      rw [h87] at e; cases e
      exact .inr (.inl ⟨hcode, rfl, #[], ps, rfl, by rw [Array.empty_append]; exact hps⟩)
    · exact .inl (R'.h.keep b o (by rw [mask_get, if_neg (fun hm => q (List.mem_singleton.mp hm))]; exact e))
  · by_cases q : b = (87 : Nat)
    · subst q; exact ⟨_, hps⟩
    · exact ⟨o, R'.h.keep b o (by rw [mask_get, if_neg (fun hm => q (List.mem_singleton.mp hm))]; exact e)⟩
end Mine
namespace Mine
open PySem PySem.W PyProof.Rows
-- the head: the law's row from the walk alone
-- names taken: the head lays twins of its constants under them, and their proofs are long; without them it looks at the constants themselves
theorem top.tw10005945817407372193 : True := ⟨⟩
theorem top.tw10006222313960134694 : True := ⟨⟩
theorem top.tw10187264123177260123 : True := ⟨⟩
theorem top.tw10404823597219466188 : True := ⟨⟩
theorem top.tw1047907039808853306 : True := ⟨⟩
theorem top.tw105208000716104510 : True := ⟨⟩
theorem top.tw10617020205504526918 : True := ⟨⟩
theorem top.tw10648311167861321448 : True := ⟨⟩
theorem top.tw10773188271377071773 : True := ⟨⟩
theorem top.tw10996937224433265937 : True := ⟨⟩
theorem top.tw11012874149002130535 : True := ⟨⟩
theorem top.tw11133666699803404755 : True := ⟨⟩
theorem top.tw11146265600767120671 : True := ⟨⟩
theorem top.tw11279390925490393535 : True := ⟨⟩
theorem top.tw11430207588045935325 : True := ⟨⟩
theorem top.tw11459358961799972967 : True := ⟨⟩
theorem top.tw1149218181149386328 : True := ⟨⟩
theorem top.tw11613256710310857696 : True := ⟨⟩
theorem top.tw11858546649754279707 : True := ⟨⟩
theorem top.tw1195175773429642966 : True := ⟨⟩
theorem top.tw11960245374511038805 : True := ⟨⟩
theorem top.tw12012865196380796599 : True := ⟨⟩
theorem top.tw12318557346453588183 : True := ⟨⟩
theorem top.tw12342655685612074800 : True := ⟨⟩
theorem top.tw12385144161495827662 : True := ⟨⟩
theorem top.tw12392516345856041104 : True := ⟨⟩
theorem top.tw12425085872883035938 : True := ⟨⟩
theorem top.tw1245559373397905713 : True := ⟨⟩
theorem top.tw12483720753089274532 : True := ⟨⟩
theorem top.tw12535971307161669396 : True := ⟨⟩
theorem top.tw12540527436937284434 : True := ⟨⟩
theorem top.tw12622177474791663080 : True := ⟨⟩
theorem top.tw12643491718579748851 : True := ⟨⟩
theorem top.tw1275901062530889299 : True := ⟨⟩
theorem top.tw12819366960792805191 : True := ⟨⟩
theorem top.tw1284575025550258836 : True := ⟨⟩
theorem top.tw13091174067606910046 : True := ⟨⟩
theorem top.tw13119100287873231151 : True := ⟨⟩
theorem top.tw13120753694373217308 : True := ⟨⟩
theorem top.tw13160728816969591200 : True := ⟨⟩
theorem top.tw13264354339760550358 : True := ⟨⟩
theorem top.tw13272337422414781067 : True := ⟨⟩
theorem top.tw13303987763403120937 : True := ⟨⟩
theorem top.tw13345470168829271861 : True := ⟨⟩
theorem top.tw13359135706311490777 : True := ⟨⟩
theorem top.tw13501861133214626273 : True := ⟨⟩
theorem top.tw13698093540088096225 : True := ⟨⟩
theorem top.tw13735760440130909963 : True := ⟨⟩
theorem top.tw14278253952001398240 : True := ⟨⟩
theorem top.tw14349089067433371257 : True := ⟨⟩
theorem top.tw14372152842798730730 : True := ⟨⟩
theorem top.tw1438034889895236575 : True := ⟨⟩
theorem top.tw14402358008270493973 : True := ⟨⟩
theorem top.tw14459580976405569124 : True := ⟨⟩
theorem top.tw14502225709538309166 : True := ⟨⟩
theorem top.tw14597223018079223185 : True := ⟨⟩
theorem top.tw14608685727046917156 : True := ⟨⟩
theorem top.tw14611434983143301774 : True := ⟨⟩
theorem top.tw14823308797102314842 : True := ⟨⟩
theorem top.tw14826035006057030972 : True := ⟨⟩
theorem top.tw1483126911874232274 : True := ⟨⟩
theorem top.tw14861896470697024400 : True := ⟨⟩
theorem top.tw14901070454687303710 : True := ⟨⟩
theorem top.tw14917401599646851644 : True := ⟨⟩
theorem top.tw14987219478266130788 : True := ⟨⟩
theorem top.tw15058813355848621054 : True := ⟨⟩
theorem top.tw1516213087968936877 : True := ⟨⟩
theorem top.tw15169761463676818070 : True := ⟨⟩
theorem top.tw15177526630643400193 : True := ⟨⟩
theorem top.tw15240379268576122478 : True := ⟨⟩
theorem top.tw15503665604740900718 : True := ⟨⟩
theorem top.tw15569959144833144457 : True := ⟨⟩
theorem top.tw15646934709686841381 : True := ⟨⟩
theorem top.tw15860264024139754761 : True := ⟨⟩
theorem top.tw15928431593259215692 : True := ⟨⟩
theorem top.tw16058212318047004132 : True := ⟨⟩
theorem top.tw16123964013534891561 : True := ⟨⟩
theorem top.tw16155163154822807229 : True := ⟨⟩
theorem top.tw16174758807025615021 : True := ⟨⟩
theorem top.tw16196420915677631385 : True := ⟨⟩
theorem top.tw16204670001084760307 : True := ⟨⟩
theorem top.tw16273406610938067001 : True := ⟨⟩
theorem top.tw16352630495959832749 : True := ⟨⟩
theorem top.tw16420938139371093754 : True := ⟨⟩
theorem top.tw16439428074185983240 : True := ⟨⟩
theorem top.tw16666122058527598403 : True := ⟨⟩
theorem top.tw16782997733028217545 : True := ⟨⟩
theorem top.tw16840627104734473223 : True := ⟨⟩
theorem top.tw17315540178315561739 : True := ⟨⟩
theorem top.tw17323899518341599180 : True := ⟨⟩
theorem top.tw17470836177267949868 : True := ⟨⟩
theorem top.tw17486766287000646611 : True := ⟨⟩
theorem top.tw17555251805378815213 : True := ⟨⟩
theorem top.tw17810072253543177317 : True := ⟨⟩
theorem top.tw17886615442053742456 : True := ⟨⟩
theorem top.tw18008055252877512497 : True := ⟨⟩
theorem top.tw18034075008235765660 : True := ⟨⟩
theorem top.tw1814787853859245837 : True := ⟨⟩
theorem top.tw18164388396756303480 : True := ⟨⟩
theorem top.tw18186074749648716422 : True := ⟨⟩
theorem top.tw18194552166560175392 : True := ⟨⟩
theorem top.tw1869187583165140508 : True := ⟨⟩
theorem top.tw1886144042066472794 : True := ⟨⟩
theorem top.tw2057334267981633021 : True := ⟨⟩
theorem top.tw216529984938456764 : True := ⟨⟩
theorem top.tw2249405535684624136 : True := ⟨⟩
theorem top.tw2287823674025257028 : True := ⟨⟩
theorem top.tw2462062305354472974 : True := ⟨⟩
theorem top.tw2464713573024523455 : True := ⟨⟩
theorem top.tw2514443458684651071 : True := ⟨⟩
theorem top.tw2555065506035805374 : True := ⟨⟩
theorem top.tw2617719716777270872 : True := ⟨⟩
theorem top.tw2731995056826638727 : True := ⟨⟩
theorem top.tw2812155379371279736 : True := ⟨⟩
theorem top.tw2822501910515967889 : True := ⟨⟩
theorem top.tw2849167335222591983 : True := ⟨⟩
theorem top.tw2859820771318785749 : True := ⟨⟩
theorem top.tw2867133514656366558 : True := ⟨⟩
theorem top.tw2924597203103170677 : True := ⟨⟩
theorem top.tw2985252069258134486 : True := ⟨⟩
theorem top.tw342308947776675178 : True := ⟨⟩
theorem top.tw3476351306007107726 : True := ⟨⟩
theorem top.tw3548450838203325541 : True := ⟨⟩
theorem top.tw3561193834555079511 : True := ⟨⟩
theorem top.tw370947364307004932 : True := ⟨⟩
theorem top.tw3784791708983455732 : True := ⟨⟩
theorem top.tw390997316461189296 : True := ⟨⟩
theorem top.tw3969286963782609292 : True := ⟨⟩
theorem top.tw4159251561096739476 : True := ⟨⟩
theorem top.tw4166218997396506358 : True := ⟨⟩
theorem top.tw4186445540838780016 : True := ⟨⟩
theorem top.tw4213018616267185653 : True := ⟨⟩
theorem top.tw427269002284569659 : True := ⟨⟩
theorem top.tw4321519831107876412 : True := ⟨⟩
theorem top.tw4498253355057717688 : True := ⟨⟩
theorem top.tw453181688931711583 : True := ⟨⟩
theorem top.tw4551080515912023512 : True := ⟨⟩
theorem top.tw4571971715460732019 : True := ⟨⟩
theorem top.tw4656485037274611717 : True := ⟨⟩
theorem top.tw4671429814451907529 : True := ⟨⟩
theorem top.tw4801916741778618903 : True := ⟨⟩
theorem top.tw5058314954733539658 : True := ⟨⟩
theorem top.tw5105846836358774362 : True := ⟨⟩
theorem top.tw5118827330378232414 : True := ⟨⟩
theorem top.tw5225153198818245361 : True := ⟨⟩
theorem top.tw5244899138074338376 : True := ⟨⟩
theorem top.tw5303079699428457377 : True := ⟨⟩
theorem top.tw5523086135645875356 : True := ⟨⟩
theorem top.tw5581607755468803823 : True := ⟨⟩
theorem top.tw5667650583090716360 : True := ⟨⟩
theorem top.tw575894324575664597 : True := ⟨⟩
theorem top.tw5868845118606482295 : True := ⟨⟩
theorem top.tw6127594578889010139 : True := ⟨⟩
theorem top.tw6187478851450931391 : True := ⟨⟩
theorem top.tw6286779285267259847 : True := ⟨⟩
theorem top.tw6333448901615975916 : True := ⟨⟩
theorem top.tw6370870915552960936 : True := ⟨⟩
theorem top.tw6431110157172167083 : True := ⟨⟩
theorem top.tw6473336682457920079 : True := ⟨⟩
theorem top.tw6491118196486620199 : True := ⟨⟩
theorem top.tw6520327441239513222 : True := ⟨⟩
theorem top.tw6664487174759623829 : True := ⟨⟩
theorem top.tw6859976401760118174 : True := ⟨⟩
theorem top.tw6883741973766446791 : True := ⟨⟩
theorem top.tw6898770573198911631 : True := ⟨⟩
theorem top.tw6906291655842520137 : True := ⟨⟩
theorem top.tw6919701780365589675 : True := ⟨⟩
theorem top.tw7008692893051332821 : True := ⟨⟩
theorem top.tw705360758644809490 : True := ⟨⟩
theorem top.tw7092665756404751892 : True := ⟨⟩
theorem top.tw7297446738713254254 : True := ⟨⟩
theorem top.tw7414872774492366064 : True := ⟨⟩
theorem top.tw7458633546980236471 : True := ⟨⟩
theorem top.tw7557910624720293991 : True := ⟨⟩
theorem top.tw7673058066778466091 : True := ⟨⟩
theorem top.tw7740461459972228597 : True := ⟨⟩
theorem top.tw775762912060472103 : True := ⟨⟩
theorem top.tw788273225186049534 : True := ⟨⟩
theorem top.tw795583310449317561 : True := ⟨⟩
theorem top.tw7990429038631628895 : True := ⟨⟩
theorem top.tw814325599930780420 : True := ⟨⟩
theorem top.tw8143265674769528471 : True := ⟨⟩
theorem top.tw8146399340996573465 : True := ⟨⟩
theorem top.tw81815255157605957 : True := ⟨⟩
theorem top.tw8265191368974092141 : True := ⟨⟩
theorem top.tw8345894832289464959 : True := ⟨⟩
theorem top.tw8363718466572441477 : True := ⟨⟩
theorem top.tw8435561252592420358 : True := ⟨⟩
theorem top.tw8443935842833279946 : True := ⟨⟩
theorem top.tw8538268897159353584 : True := ⟨⟩
theorem top.tw8598144960395782539 : True := ⟨⟩
theorem top.tw8640399195822439974 : True := ⟨⟩
theorem top.tw864819663365544661 : True := ⟨⟩
theorem top.tw8689318265317240412 : True := ⟨⟩
theorem top.tw8735323631387419056 : True := ⟨⟩
theorem top.tw8810280945414196856 : True := ⟨⟩
theorem top.tw8892184565913893157 : True := ⟨⟩
theorem top.tw9059672392935016618 : True := ⟨⟩
theorem top.tw9059832203979395877 : True := ⟨⟩
theorem top.tw9063741608606530840 : True := ⟨⟩
theorem top.tw9068506458530023791 : True := ⟨⟩
theorem top.tw908825868028484722 : True := ⟨⟩
theorem top.tw9108098604805947806 : True := ⟨⟩
theorem top.tw9229161468869434483 : True := ⟨⟩
theorem top.tw9305691244287143441 : True := ⟨⟩
theorem top.tw9378254376102152143 : True := ⟨⟩
theorem top.tw9437893007894698314 : True := ⟨⟩
theorem top.tw956942650209027819 : True := ⟨⟩
theorem top.tw9631074621892390191 : True := ⟨⟩
theorem top.tw9759319705405543751 : True := ⟨⟩
theorem top.tw987869383939708018 : True := ⟨⟩
set_option Elab.async true in
set_option maxHeartbeats 8000000 in
theorem top : PySem.Challenge.rw_yj0020_01.Holds := by
  w_on
  o_law
  o_head (kmHook kfrag.heap_1 [2, 3, 15, 17, 18, 20, 21, 22, 25, 27, 28, 30, 31, 32, 34, 35, 37, 38, 39, 41, 42, 44, 45, 46, 49, 54, 55, 56, 58, 59, 61, 62, 63, 65, 66, 68, 69, 70, 71, 73, 74, 76, 77, 78, 79, 81, 82, 84, 85, 86, 88, 89, 91, 92, 93, 95, 96, 98, 99, 100, 101, 103, 104, 106, 107, 108, 110, 111, 113, 114, 115, 116, 118, 119, 121, 122, 123, 124, 125, 126, 127, 130, 132, 133, 135, 136, 137, 139, 140, 142, 143, 144, 146, 147, 149, 150, 151, 153, 154, 156, 157, 158, 161, 162, 163, 166, 167, 168, 170, 171, 173, 174, 175, 177, 178, 180, 181, 182, 185, 186, 187, 189, 190, 192, 193, 194, 196, 197, 199, 200, 201, 204, 205, 206, 209, 210, 211, 213, 214, 216, 217, 218, 221, 222] (fun _ => by kernel_rfl) [87])
  case hw => w_witness2
  intro w s₀ s₁ mg mb G Y a o pm cd doc dV kV ho hod hcd hD hmg hg args vals as hpre hlay hrd hwl hlo
  exact fin G.T (km_in_of Y) (km_tabs_of Y 87 (by decide)) hmg hg hpre hwl
end Mine
theorem PySem.Challenge.cw_yj0020_01_holds : PySem.Challenge.rw_yj0020_01.Holds := by
  exact Mine.top
