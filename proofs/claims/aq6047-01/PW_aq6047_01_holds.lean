import PyProof.Rows.All
import Wide.All
import OpenK.AllK
import Wide.FinOn
import PySem.Challenge.RW_aq6047_01
set_option Elab.async false
section
open PySem
namespace Mine
set_option maxRecDepth 10000

/-! the small language: values, own objects, code -/
inductive V where
  | none | bool (b : Bool) | int (i : Int) | str (s : Str) | ref (n : Nat)
  | lin (a : Int) (j : Nat) (b : Int) | quo (j : Nat) (d : Int) | inv (d : Nat) | mul (n : Nat) (d : Nat) | opq

inductive O where
  | list (xs : List V) | tup (xs : List V) | cell (v : Option V)

inductive Sl where
  | loc (v : Option V) | cel (n : Nat) | oth

inductive CS where
  | loc | fre (i : Nat) | oth

inductive PS where
  | par (k : Nat) | parc (k : Nat) | loc | cel | oth

inductive Tg where
  | loc (i : Nat) | cel (i : Nat)

inductive Op where
  | add | sub | mul | div | fdiv | mod | pow
inductive Cm where
  | eq | ne | lt | le | gt | ge

inductive X where
  | cst (c : V) | loc (i : Nat) | cel (i : Nat)
  | bin (op : Op) (a b : X) | cmp (op : Cm) (a b : X) | inv (a : X) | neg (a : X)
  | bop (isAnd : Bool) (l : List X) | ite (t a b : X)
  | sub (a i : X) | cut (a : X) | lst (l : List X) | tup (l : List X)
  | len (a : X) | isi (T : String) (a : X) | cpy (a : X)
  | rng (l : List X) | enu (a : X)
  | join (a : X) | pop0 (a : X) | pop (a : X)
  | app (o a : X) | ext (o a : X) | rev (o : X) | srt (o : X)
  | comp (elt : X) (tg : List Tg) (pair : Bool) (it : X) (ifs : List X) (sl : List CS)
  | call (f : Nat) (args : List X)
  | refu
  | dead

inductive S where
  | asg (t : Tg) (x : X)
  | asgT (ts : List Tg) (x : X)
  | asgW (ts : List Tg) (x : X)
  | sto (o i v : X)
  | aug (i : Nat) (x : X)
  | augs (o i x : X)
  | exp (x : X)
  | ifs (t : X) (a b : List S)
  | whl (t : X) (b : List S)
  | fr (tg : List Tg) (pair : Bool) (it : X) (b : List S)
  | ret (x : X)
  | rais
  | trc (k : Nat) (a : X) (h : List S)
  | dead

structure Fm where
  sl : List Sl
  fz : Nat

structure FnD where
  ar : Nat
  sl : List PS
  dfl : List V
  body : List S

structure Orc where
  r : Option Int
  bits : List Bool

inductive It where
  | rng (a : Int) (n : Nat) | lst (n i : Nat) | enm (n i : Nat)

inductive R where
  | next | ret (v : V)

structure Rec where
  ev : Fm → List O → X → Option (V × List O)
  ts : Fm → List O → X → Option (Bool × List O)
  st : Fm → List O → S → Option (R × Fm × List O)

/-! plain operations -/
def bitAt : List Bool → Int → Int → Option Bool
  | [], _, _ => none
  | b :: r, p, d => match decide (d = p) with
    | true => some b
    | false => bitAt r (p + p) d

def rep (xs : List V) : Nat → List V
  | 0 => []
  | n + 1 => xs ++ rep xs n

def getL (H : List O) (n : Nat) : Option (List V) := match H[n]? with
  | some (.list xs) => some xs
  | _ => none

def bop2 (K : Orc) (H : List O) : Op → V → V → Option (V × List O)
  | .add, .int a, .int b => some (.int (a + b), H)
  | .add, .lin a j b, .int c => some (.lin a j (b + c), H)
  | .add, .ref m, .ref n => match getL H m with
    | some xs => match getL H n with
      | some ys => match Nat.ble (xs.length + ys.length) 1000 with
        | true => some (.ref H.length, H ++ [.list (xs ++ ys)])
        | false => none
      | none => none
    | none => none
  | .sub, .int a, .int b => some (.int (a - b), H)
  | .mul, .int a, .int b => match decide (0 ≤ a) && decide (a ≤ 64) with
    | true => some (.int (a * b), H)
    | false => none
  | .mul, .int c, .lin a j b => match decide (0 ≤ c) && decide (c ≤ 64) && decide (b = 0) with
    | true => some (.lin (c * a) j 0, H)
    | false => none
  | .mul, .int (.ofNat n), .inv d => match Nat.ble n 8 with
    | true => some (.mul n d, H)
    | false => none
  | .mul, .ref m, .int (.ofNat k) => match getL H m with
    | some xs => match Nat.ble k 16 && Nat.ble xs.length 16 with
      | true => some (.ref H.length, H ++ [.list (rep xs k)])
      | false => none
    | none => none
  | .mul, .int (.ofNat k), .ref m => match getL H m with
    | some xs => match Nat.ble k 16 && Nat.ble xs.length 16 with
      | true => some (.ref H.length, H ++ [.list (rep xs k)])
      | false => none
    | none => none
  | .div, .int (.ofNat 1), .int (.ofNat d) => match Nat.ble 1 d && Nat.ble d 8 with
    | true => some (.inv d, H)
    | false => none
  | .fdiv, .lin a j b, .int d => match decide (a = 1) && decide (b = 0) && decide (0 < d) && decide (d < 100000) with
    | true => some (.quo j d, H)
    | false => none
  | .mod, .lin a j b, .int d => match decide (a = 1) && decide (b = 0) && decide (d = 8) && Nat.beq j 0 with
    | true => match K.r with
      | some c => some (.int c, H)
      | none => none
    | false => none
  | .mod, .int a, .int b => match decide (0 ≤ a) && decide (a < 1000) && decide (0 < b) && decide (b < 1000) with
    | true => some (.int (Int.fmod a b), H)
    | false => none
  | .mod, .quo j d, .int e => match decide (e = 2) && Nat.beq j 1 with
    | true => match bitAt K.bits 1 d with
      | some true => some (.int 1, H)
      | some false => some (.int 0, H)
      | none => none
    | false => none
  | .pow, .int a, .int (.ofNat k) => match decide (a = 2) && Nat.ble k 16 with
    | true => some (.int ((2 ^ k : Nat) : Int), H)
    | false => none
  | _, _, _ => none

mutual
def eqV : Nat → List O → V → V → Option Bool
  | 0, _, _, _ => none
  | _ + 1, _, .none, .none => some true
  | _ + 1, _, .bool a, .bool b => some (decide (a = b))
  | _ + 1, _, .int a, .int b => some (decide (a = b))
  | _ + 1, _, .str a, .str b => some (decide (a = b))
  | _ + 1, _, .int _, .str _ => some false
  | _ + 1, _, .str _, .int _ => some false
  | _ + 1, _, .lin a j b, .lin a' j' b' => match decide (a = a') && Nat.beq j j' && decide (b = b') with
    | true => some true
    | false => none
  | _ + 1, _, .mul n d, .mul n' d' => match Nat.beq n n' && Nat.beq d d' with
    | true => some true
    | false => none
  | k + 1, H, .ref m, .ref n => match Nat.beq m n with
    | true => some true
    | false => match H[m]? with
      | some (.list xs) => match H[n]? with
        | some (.list ys) => match Nat.beq xs.length ys.length with
          | true => eqL k H xs ys
          | false => some false
        | _ => none
      | some (.tup xs) => match H[n]? with
        | some (.tup ys) => match Nat.beq xs.length ys.length with
          | true => eqL k H xs ys
          | false => none
        | _ => none
      | _ => none
  | _ + 1, _, _, _ => none
def eqL : Nat → List O → List V → List V → Option Bool
  | 0, _, _, _ => none
  | _ + 1, _, [], [] => some true
  | k + 1, H, x :: xs, y :: ys => match eqV k H x y with
    | some a => match eqL k H xs ys with
      | some b => some (a && b)
      | none => none
    | none => none
  | _ + 1, _, _, _ => none
end

def sameRef : V → V → Bool
  | .ref m, .ref n => Nat.beq m n
  | _, _ => false

def cmp2 (H : List O) : Cm → V → V → Option Bool
  | .eq, a, b => match sameRef a b with
    | true => none
    | false => eqV 40 H a b
  | .ne, a, b => match sameRef a b with
    | true => none
    | false => match eqV 40 H a b with
      | some r => some (!r)
      | none => none
  | .lt, .int a, .int b => some (decide (a < b))
  | .le, .int a, .int b => some (decide (a ≤ b))
  | .gt, .int a, .int b => some (decide (b < a))
  | .ge, .int a, .int b => some (decide (b ≤ a))
  | _, _, _ => none

def tru (H : List O) : V → Option Bool
  | .bool b => some b
  | .ref n => match getL H n with
    | some xs => match Nat.ble xs.length 1000 with
      | true => some (!xs.isEmpty)
      | false => none
    | none => none
  | _ => none

def isiV (H : List O) (T : String) : V → Option Bool
  | .none => if T = "str" then some false else if T = "tuple" then some false else if T = "int" then some false else none
  | .str _ => if T = "str" then some true else if T = "list" then some false else none
  | .int _ => if T = "int" then some true else if T = "str" then some false else if T = "tuple" then some false else none
  | .ref n => match H[n]? with
    | some (.list _) => if T = "list" then some true else if T = "dict" then some false else none
    | some (.tup _) => if T = "tuple" then some true else if T = "str" then some false else none
    | _ => none
  | _ => none

def strsOf : List V → Option (List Str)
  | [] => some []
  | .str s :: r => match strsOf r with
    | some t => some (s :: t)
    | none => none
  | _ :: _ => none

def intPair (H : List O) : V → Option (Int × Int)
  | .ref n => match H[n]? with
    | some (.list [.int a, .int b]) => some (a, b)
    | _ => none
  | _ => none
def intPairs (H : List O) : List V → Option (List (Int × Int))
  | [] => some []
  | v :: r => match intPair H v with
    | some p => match intPairs H r with
      | some l => some (p :: l)
      | none => none
    | none => none
def ltPair (p q : Int × Int) : Bool := match decide (p.1 = q.1) with
  | true => decide (p.2 < q.2)
  | false => decide (p.1 < q.1)
def kasRun {α : Type} (n : Nat) (cmp : Nat → Nat → Bool) : PySem.W.KasT α → Option α
  | .ret a => some a
  | .ask i j k => match Nat.blt i n && Nat.blt j n with
    | true => kasRun n cmp (k (cmp i j))
    | false => none

def allNat (n : Nat) : List Nat → Bool
  | [] => true
  | i :: r => Nat.blt i n && allNat n r

def setSl (fm : Fm) (i : Nat) (v : V) : Fm := { fm with sl := fm.sl.set i (.loc (some v)) }

def put (fm : Fm) (H : List O) : Tg → V → Option (Fm × List O)
  | .loc i, v => match fm.sl[i]? with
    | some (.loc _) => some (setSl fm i v, H)
    | _ => none
  | .cel i, v => match fm.sl[i]? with
    | some (.cel n) => match H[n]? with
      | some (.cell _) => match Nat.ble fm.fz n with
        | true => some (fm, H.set n (.cell (some v)))
        | false => none
      | _ => none
    | _ => none

def puts (fm : Fm) (H : List O) : List Tg → List V → Option (Fm × List O)
  | [], [] => some (fm, H)
  | t :: ts, v :: vs => match put fm H t v with
    | some (fm', H') => puts fm' H' ts vs
    | none => none
  | _, _ => none

def seqOf (H : List O) : V → Option (List V)
  | .ref n => match H[n]? with
    | some (.list xs) => some xs
    | some (.tup xs) => some xs
    | _ => none
  | _ => none

def nextI (H : List O) : It → Option (Option V × Option V × It)
  | .rng a 0 => some (none, none, .rng a 0)
  | .rng a (n + 1) => some (some (.int a), none, .rng (a + 1) n)
  | .lst n i => match getL H n with
    | some xs => match xs[i]? with
      | some v => some (some v, none, .lst n (i + 1))
      | none => some (none, none, .lst n i)
    | none => none
  | .enm n i => match getL H n with
    | some xs => match xs[i]? with
      | some v => some (some (.int i), some v, .enm n (i + 1))
      | none => some (none, none, .enm n i)
    | none => none

def putI (fm : Fm) (H : List O) (tg : List Tg) (pair : Bool) (v : V) (u : Option V) : Option (Fm × List O) :=
  match pair, tg, u with
  | false, [t], none => put fm H t v
  | true, [t1, t2], some w => puts fm H [t1, t2] [v, w]
  | _, _, _ => none

def mkF (vs : List V) : List PS → List O → List Sl × List O
  | [], H => ([], H)
  | .par k :: r, H => match mkF vs r H with
    | (s, H') => (.loc vs[k]? :: s, H')
  | .loc :: r, H => match mkF vs r H with
    | (s, H') => (.loc none :: s, H')
  | .oth :: r, H => match mkF vs r H with
    | (s, H') => (.oth :: s, H')
  | .parc k :: r, H => match mkF vs r (H ++ [.cell vs[k]?]) with
    | (s, H') => (.cel H.length :: s, H')
  | .cel :: r, H => match mkF vs r (H ++ [.cell none]) with
    | (s, H') => (.cel H.length :: s, H')

def mkC (fm : Fm) : List CS → Option (List Sl)
  | [] => some []
  | .loc :: r => match mkC fm r with
    | some l => some (.loc none :: l)
    | none => none
  | .oth :: r => match mkC fm r with
    | some l => some (.oth :: l)
    | none => none
  | .fre i :: r => match fm.sl[i]? with
    | some (.cel n) => match mkC fm r with
      | some l => some (.cel n :: l)
      | none => none
    | _ => none

section
variable (K : Orc) (P : List FnD) (r : Rec)

def evL (fm : Fm) : List O → List X → Option (List V × List O)
  | H, [] => some ([], H)
  | H, x :: xs => match r.ev fm H x with
    | some (v, H1) => match evL fm H1 xs with
      | some (vs, H2) => some (v :: vs, H2)
      | none => none
    | none => none

def stL : Fm → List O → List S → Option (R × Fm × List O)
  | fm, H, [] => some (.next, fm, H)
  | fm, H, s :: ss => match r.st fm H s with
    | some (.next, fm1, H1) => stL fm1 H1 ss
    | some (.ret v, fm1, H1) => some (.ret v, fm1, H1)
    | none => none

def allT (fm : Fm) (isAnd : Bool) : List O → List X → Option (Bool × List O)
  | H, [] => some (isAnd, H)
  | H, x :: xs => match r.ts fm H x with
    | some (b, H1) => match isAnd, b with
      | true, false => some (false, H1)
      | false, true => some (true, H1)
      | _, _ => allT fm isAnd H1 xs
    | none => none

def boolV (fm : Fm) (isAnd : Bool) : List O → List X → Option (V × List O)
  | _, [] => none
  | H, [x] => r.ev fm H x
  | H, x :: y :: xs => match r.ev fm H x with
    | some (v, H1) => match tru H1 v with
      | some b => match isAnd, b with
        | true, false => some (v, H1)
        | false, true => some (v, H1)
        | _, _ => boolV fm isAnd H1 (y :: xs)
      | none => none
    | none => none

def iterOf (fm : Fm) (H : List O) : X → Option (It × List O)
  | .rng [a] => match r.ev fm H a with
    | some (.int n, H1) => match decide (0 ≤ n) && decide (n ≤ 64) with
      | true => some (.rng 0 n.toNat, H1)
      | false => none
    | _ => none
  | .rng [a, b] => match r.ev fm H a with
    | some (.int m, H1) => match r.ev fm H1 b with
      | some (.int n, H2) => match decide (0 ≤ m) && decide (m ≤ n) && decide (n ≤ 64) with
        | true => some (.rng m (n - m).toNat, H2)
        | false => none
      | _ => none
    | _ => none
  | .enu a => match r.ev fm H a with
    | some (.ref n, H1) => match getL H1 n with
      | some _ => some (.enm n 0, H1)
      | none => none
    | _ => none
  | x => match r.ev fm H x with
    | some (.ref n, H1) => match getL H1 n with
      | some _ => some (.lst n 0, H1)
      | none => none
    | _ => none

def forN (tg : List Tg) (pair : Bool) (body : List S) : Nat → It → Fm → List O → Option (R × Fm × List O)
  | 0, _, _, _ => none
  | n + 1, it, fm, H => match nextI H it with
    | some (none, _, _) => some (.next, fm, H)
    | some (some v, u, it') => match putI fm H tg pair v u with
      | some (fm1, H1) => match stL r fm1 H1 body with
        | some (.next, fm2, H2) => forN tg pair body n it' fm2 H2
        | some (.ret v, fm2, H2) => some (.ret v, fm2, H2)
        | none => none
      | none => none
    | none => none

def whlN (t : X) (body : List S) : Nat → Fm → List O → Option (R × Fm × List O)
  | 0, _, _ => none
  | n + 1, fm, H => match r.ts fm H t with
    | some (false, H1) => some (.next, fm, H1)
    | some (true, H1) => match stL r fm H1 body with
      | some (.next, fm2, H2) => whlN t body n fm2 H2
      | some (.ret v, fm2, H2) => some (.ret v, fm2, H2)
      | none => none
    | none => none

def compN (tg : List Tg) (pair : Bool) (ifs : List X) (elt : X) : Nat → It → Fm → List V → List O → Option (List V × List O)
  | 0, _, _, _, _ => none
  | n + 1, it, fm, acc, H => match nextI H it with
    | some (none, _, _) => some (acc, H)
    | some (some v, u, it') => match putI fm H tg pair v u with
      | some (fm1, H1) => match allT r fm1 true H1 ifs with
        | some (true, H2) => match r.ev fm1 H2 elt with
          | some (y, H3) => match Nat.ble acc.length 1000 with
            | true => compN tg pair ifs elt n it' fm1 (acc ++ [y]) H3
            | false => none
          | none => none
        | some (false, H2) => compN tg pair ifs elt n it' fm1 acc H2
        | none => none
      | none => none
    | none => none

def idxI (n : Nat) (i : Int) : Option Nat := match decide (0 ≤ i) && decide (i < 1000) && Nat.blt i.toNat n with
  | true => some i.toNat
  | false => match decide (i = -1) && Nat.blt 0 n && Nat.ble n 1000 with
    | true => some (n - 1)
    | false => none

def popAt (fm : Fm) (H : List O) (v : V) (first : Bool) : Option (V × List O) := match v with
  | .ref n => match getL H n with
    | some xs => match Nat.ble fm.fz n && Nat.ble xs.length 1000 with
      | true => match first, xs with
        | true, x :: ys => some (x, H.set n (.list ys))
        | false, x :: ys => some ((x :: ys).getLast (List.cons_ne_nil _ _), H.set n (.list (x :: ys).dropLast))
        | _, [] => none
      | false => none
    | none => none
  | _ => none

def subV (H : List O) : V → V → Option V
  | .ref n, .int i => match seqOf H (.ref n) with
    | some xs => match idxI xs.length i with
      | some j => xs[j]?
      | none => none
    | none => none
  | .str s, .int i => match idxI s.cps.toList.length i with
    | some j => match s.cps.toList[j]? with
      | some c => some (.str ⟨#[c]⟩)
      | none => none
    | none => none
  | _, _ => none

def evF (fm : Fm) (H : List O) : X → Option (V × List O)
  | .cst c => some (c, H)
  | .loc i => match fm.sl[i]? with
    | some (.loc (some v)) => some (v, H)
    | _ => none
  | .cel i => match fm.sl[i]? with
    | some (.cel n) => match H[n]? with
      | some (.cell (some v)) => some (v, H)
      | _ => none
    | _ => none
  | .bin op a b => match r.ev fm H a with
    | some (v, H1) => match r.ev fm H1 b with
      | some (u, H2) => bop2 K H2 op v u
      | none => none
    | none => none
  | .cmp op a b => match r.ev fm H a with
    | some (v, H1) => match r.ev fm H1 b with
      | some (u, H2) => match cmp2 H2 op v u with
        | some c => some (.bool c, H2)
        | none => none
      | none => none
    | none => none
  | .neg a => match r.ev fm H a with
    | some (.int i, H1) => some (.int (-i), H1)
    | _ => none
  | .bop isAnd l => boolV r fm isAnd H l
  | .ite t a b => match r.ts fm H t with
    | some (true, H1) => r.ev fm H1 a
    | some (false, H1) => r.ev fm H1 b
    | none => none
  | .sub a i => match r.ev fm H a with
    | some (v, H1) => match r.ev fm H1 i with
      | some (u, H2) => match subV H2 v u with
        | some y => some (y, H2)
        | none => none
      | none => none
    | none => none
  | .cut a => match r.ev fm H a with
    | some (.str s, H1) => match Nat.ble s.cps.size 16 with
      | true => some (.str s, H1)
      | false => none
    | some (.ref n, H1) => match getL H1 n with
      | some xs => match Nat.ble xs.length 1000 with
        | true => some (.ref H1.length, H1 ++ [.list xs])
        | false => none
      | none => none
    | _ => none
  | .lst l => match evL r fm H l with
    | some (vs, H1) => match Nat.ble vs.length 1000 with
      | true => some (.ref H1.length, H1 ++ [.list vs])
      | false => none
    | none => none
  | .tup l => match evL r fm H l with
    | some (vs, H1) => match Nat.ble vs.length 1000 with
      | true => some (.ref H1.length, H1 ++ [.tup vs])
      | false => none
    | none => none
  | .len a => match r.ev fm H a with
    | some (.ref n, H1) => match getL H1 n with
      | some xs => match Nat.ble xs.length 1000 with
        | true => some (.int xs.length, H1)
        | false => none
      | none => none
    | some (.str s, H1) => match Nat.ble s.cps.toList.length 1000 with
      | true => some (.int s.cps.toList.length, H1)
      | false => none
    | _ => none
  | .isi T a => match r.ev fm H a with
    | some (v, H1) => match isiV H1 T v with
      | some b => some (.bool b, H1)
      | none => none
    | none => none
  | .cpy a => match r.ev fm H a with
    | some (.ref n, H1) => match getL H1 n with
      | some xs => match Nat.ble xs.length 1000 with
        | true => some (.ref H1.length, H1 ++ [.list xs])
        | false => none
      | none => none
    | some (.str s, H1) => match Nat.ble s.cps.toList.length 1000 with
      | true => some (.ref H1.length, H1 ++ [.list (s.cps.toList.map fun c => .str ⟨#[c]⟩)])
      | false => none
    | _ => none
  | .join a => match r.ev fm H a with
    | some (.ref n, H1) => match getL H1 n with
      | some xs => match strsOf xs with
        | some ts => match JoinOk ⟨#[]⟩ ts with
          | true => some (.str (Txt.join ⟨#[]⟩ ts), H1)
          | false => none
        | none => none
      | none => none
    | _ => none
  | .pop0 a => match r.ev fm H a with
    | some (v, H1) => popAt fm H1 v true
    | none => none
  | .pop a => match r.ev fm H a with
    | some (v, H1) => popAt fm H1 v false
    | none => none
  | .app o a => match r.ev fm H o with
    | some (.ref n, H1) => match getL H1 n with
      | some _ => match r.ev fm H1 a with
        | some (v, H2) => match getL H2 n with
          | some xs => match Nat.ble fm.fz n && Nat.ble xs.length 1000 with
            | true => some (.none, H2.set n (.list (xs ++ [v])))
            | false => none
          | none => none
        | none => none
      | none => none
    | _ => none
  | .ext o a => match r.ev fm H o with
    | some (.ref n, H1) => match getL H1 n with
      | some _ => match r.ev fm H1 a with
        | some (.ref m, H2) => match getL H2 n with
          | some xs => match getL H2 m with
            | some ys => match Nat.ble fm.fz n && Nat.ble (xs.length + ys.length) 1000 with
              | true => some (.none, H2.set n (.list (xs ++ ys)))
              | false => none
            | none => none
          | none => none
        | _ => none
      | none => none
    | _ => none
  | .rev o => match r.ev fm H o with
    | some (.ref n, H1) => match getL H1 n with
      | some xs => match Nat.ble fm.fz n && Nat.ble xs.length 1000 with
        | true => some (.none, H1.set n (.list xs.reverse))
        | false => none
      | none => none
    | _ => none
  | .srt o => match r.ev fm H o with
    | some (.ref n, H1) => match getL H1 n with
      | some xs => match intPairs H1 xs with
        | some ps => match Nat.ble fm.fz n && Nat.ble 2 xs.length && Nat.blt xs.length 64 with
          | true => match kasRun xs.length (fun i j => ltPair (ps.getD i (0, 0)) (ps.getD j (0, 0))) (PySem.W.kas_sort xs.length) with
            | some p => some (.none, H1.set n (.list (p.toList.map fun i => xs.getD i .none)))
            | none => none
          | false => none
        | none => none
      | none => none
    | _ => none
  | .comp elt tg pair it ifs sl => match iterOf r fm H it with
    | some (I, H1) => match mkC fm sl with
      | some s => match compN r tg pair ifs elt 70 I ⟨s, H1.length⟩ [] H1 with
        | some (ys, H2) => some (.ref H2.length, H2 ++ [.list ys])
        | none => none
      | none => none
    | none => none
  | .call f args => match evL r fm H args with
    | some (vs, H1) => match P[f]? with
      | some fn => match Nat.beq (vs.length + fn.dfl.length) fn.ar with
        | true => match mkF (vs ++ fn.dfl) fn.sl H1 with
          | (s, H2) => match stL r ⟨s, H1.length⟩ H2 fn.body with
            | some (.ret v, _, H3) => some (v, H3)
            | _ => none
        | false => none
      | none => none
    | none => none
  | _ => none

def plT (fm : Fm) (H : List O) (x : X) : Option (Bool × List O) := match r.ev fm H x with
  | some (v, H1) => match tru H1 v with
    | some b => some (b, H1)
    | none => none
  | none => none

def tsF (fm : Fm) (H : List O) : X → Option (Bool × List O)
  | .inv a => match r.ts fm H a with
    | some (b, H1) => some (!b, H1)
    | none => none
  | .bop isAnd l => allT r fm isAnd H l
  | .cmp op a b => match r.ev fm H a with
    | some (v, H1) => match r.ev fm H1 b with
      | some (u, H2) => match cmp2 H2 op v u with
        | some c => some (c, H2)
        | none => none
      | none => none
    | none => none
  | .loc i => plT r fm H (.loc i)
  | .isi T a => plT r fm H (.isi T a)
  | _ => none

def stoV (fm : Fm) (H : List O) : V → V → V → Option (List O)
  | .ref n, .int i, v => match getL H n with
    | some xs => match Nat.ble fm.fz n with
      | true => match idxI xs.length i with
        | some j => some (H.set n (.list (xs.set j v)))
        | none => none
      | false => none
    | none => none
  | _, _, _ => none

def stF (fm : Fm) (H : List O) : S → Option (R × Fm × List O)
  | .asg t x => match r.ev fm H x with
    | some (v, H1) => match put fm H1 t v with
      | some (fm1, H2) => some (.next, fm1, H2)
      | none => none
    | none => none
  | .asgT ts x => match r.ev fm H x with
    | some (v, H1) => match seqOf H1 v with
      | some vs => match puts fm H1 ts vs with
        | some (fm1, H2) => some (.next, fm1, H2)
        | none => none
      | none => none
    | none => none
  | .asgW ts x => match r.ev fm H x with
    | some (v, H1) => match seqOf H1 v with
      | some vs => match Nat.beq ts.length vs.length with
        | true => match puts fm H1 ts.reverse vs.reverse with
          | some (fm1, H2) => some (.next, fm1, H2)
          | none => none
        | false => none
      | none => none
    | none => none
  | .sto o i x => match r.ev fm H x with
    | some (v, H1) => match r.ev fm H1 o with
      | some (ov, H2) => match r.ev fm H2 i with
        | some (iv, H3) => match stoV fm H3 ov iv v with
          | some H4 => some (.next, fm, H4)
          | none => none
        | none => none
      | none => none
    | none => none
  | .aug i x => match fm.sl[i]? with
    | some (.loc (some (.int a))) => match r.ev fm H x with
      | some (.int b, H1) => some (.next, setSl fm i (.int (a + b)), H1)
      | _ => none
    | _ => none
  | .augs o i x => match r.ev fm H o with
    | some (ov, H1) => match r.ev fm H1 i with
      | some (iv, H2) => match subV H2 ov iv with
        | some (.int a) => match r.ev fm H2 x with
          | some (.int b, H3) => match stoV fm H3 ov iv (.int (a + b)) with
            | some H4 => some (.next, fm, H4)
            | none => none
          | _ => none
        | _ => none
      | none => none
    | none => none
  | .exp x => match r.ev fm H x with
    | some (_, H1) => some (.next, fm, H1)
    | none => none
  | .ifs t a b => match r.ts fm H t with
    | some (true, H1) => stL r fm H1 a
    | some (false, H1) => stL r fm H1 b
    | none => none
  | .whl t b => whlN r t b 70 fm H
  | .fr tg pair it b => match iterOf r fm H it with
    | some (I, H1) => forN r tg pair b 70 I fm H1
    | none => none
  | .ret x => match r.ev fm H x with
    | some (v, H1) => some (.ret v, fm, H1)
    | none => none
  | .rais => none
  | .trc _ _ _ => none
  | .dead => none

def stepR : Rec := ⟨evF K P r, tsF r, stF r⟩
end

def run (K : Orc) (P : List FnD) : Nat → Rec
  | 0 => ⟨fun _ _ _ => none, fun _ _ _ => none, fun _ _ _ => none⟩
  | n + 1 => stepR K P (run K P n)

end Mine
end
section
open PySem PySem.Calls PyProof.Rows PySem.W
namespace Mine
set_option maxRecDepth 10000
set_option autoImplicit false

def invF (d : Nat) : UInt64 := Float64.ofFrac false 1 d
def mulF (n d : Nat) : UInt64 := Float64.mul (Float64.ofInt n) (invF d)

inductive VR (ρ : Nat → Int) (σ : List Addr) : V → Value → Prop
  | none : VR ρ σ .none .none
  | bool (b : Bool) : VR ρ σ (.bool b) (.bool b)
  | int (i : Int) (t : Tok) : VR ρ σ (.int i) (.int i t)
  | str (s : Str) (t : Tok) : VR ρ σ (.str s) (.str s t)
  | ref (n : Nat) (a : Addr) (h : σ[n]? = some a) : VR ρ σ (.ref n) (.ref a)
  | lin (a : Int) (j : Nat) (b : Int) (t : Tok) : VR ρ σ (.lin a j b) (.int (a * ρ j + b) t)
  | quo (j : Nat) (d : Int) (t : Tok) : VR ρ σ (.quo j d) (.int (Int.fdiv (ρ j) d) t)
  | inv (d : Nat) (t : Tok) (h : 1 ≤ d ∧ d ≤ 8) (ht : t ≠ 0) : VR ρ σ (.inv d) (.float (invF d) t)
  | mul (n d : Nat) (t : Tok) (h : 1 ≤ d ∧ d ≤ 8) (h' : n ≤ 8) (ht : t ≠ 0) : VR ρ σ (.mul n d) (.float (mulF n d) t)
  | opq (v : Value) : VR ρ σ .opq v

inductive VRs (ρ : Nat → Int) (σ : List Addr) : List V → List Value → Prop
  | nil : VRs ρ σ [] []
  | cons {x v xs vs} : VR ρ σ x v → VRs ρ σ xs vs → VRs ρ σ (x :: xs) (v :: vs)

def VO (ρ : Nat → Int) (σ : List Addr) : Option V → Option Value → Prop
  | none, none => True
  | some x, some v => VR ρ σ x v
  | _, _ => False

theorem get_ext {α : Type} {l τ : List α} {n : Nat} {a : α} (h : l[n]? = some a) : (l ++ τ)[n]? = some a := by
  have hn : n < l.length := (List.getElem?_eq_some_iff.mp h).1
  rw [List.getElem?_append_left hn]; exact h

section
variable {ρ : Nat → Int} {σ τ : List Addr}
theorem VR.ext {x : V} {v : Value} (h : VR ρ σ x v) : VR ρ (σ ++ τ) x v := by
  cases h with
  | none => exact .none
  | bool b => exact .bool b
  | int i t => exact .int i t
  | str s t => exact .str s t
  | ref n a h => exact .ref n a (get_ext h)
  | lin a j b t => exact .lin a j b t
  | quo j d t => exact .quo j d t
  | inv d t h ht => exact .inv d t h ht
  | mul n d t h h' ht => exact .mul n d t h h' ht
  | opq v => exact .opq v
theorem VRs.ext {xs : List V} {vs : List Value} (h : VRs ρ σ xs vs) : VRs ρ (σ ++ τ) xs vs := by
  induction h with
  | nil => exact .nil
  | cons h _ ih => exact .cons h.ext ih
theorem VO.ext {x : Option V} {v : Option Value} (h : VO ρ σ x v) : VO ρ (σ ++ τ) x v := by
  cases x <;> cases v <;> first | exact h | exact VR.ext h
theorem VRs.length {xs : List V} {vs : List Value} (h : VRs ρ σ xs vs) : vs.length = xs.length := by
  induction h with
  | nil => rfl
  | cons _ _ ih => simp [ih]
theorem VRs.get {xs : List V} {vs : List Value} (h : VRs ρ σ xs vs) : ∀ {i : Nat} {x : V}, xs[i]? = some x → ∃ v, vs[i]? = some v ∧ VR ρ σ x v := by
  induction h with
  | nil => intro i x e; simp at e
  | cons h _ ih =>
    intro i x e
    cases i with
    | zero => simp at e; subst e; exact ⟨_, by simp, h⟩
    | succ i => simp at e; obtain ⟨v, e', h'⟩ := ih e; exact ⟨v, by simpa using e', h'⟩
theorem VRs.append {xs ys : List V} {vs us : List Value} (h : VRs ρ σ xs vs) (k : VRs ρ σ ys us) : VRs ρ σ (xs ++ ys) (vs ++ us) := by
  induction h with
  | nil => exact k
  | cons h _ ih => exact .cons h ih
theorem VRs.snoc {xs : List V} {vs : List Value} {x : V} {v : Value} (h : VRs ρ σ xs vs) (k : VR ρ σ x v) : VRs ρ σ (xs ++ [x]) (vs ++ [v]) := h.append (.cons k .nil)
theorem VRs.reverse {xs : List V} {vs : List Value} (h : VRs ρ σ xs vs) : VRs ρ σ xs.reverse vs.reverse := by
  induction h with
  | nil => exact .nil
  | cons h _ ih => rw [List.reverse_cons, List.reverse_cons]; exact ih.snoc h
theorem VRs.set {xs : List V} {vs : List Value} {x : V} {v : Value} (h : VRs ρ σ xs vs) (k : VR ρ σ x v) : ∀ i, VRs ρ σ (xs.set i x) (vs.set i v) := by
  induction h with
  | nil => intro i; exact .nil
  | cons h r ih =>
    intro i
    cases i with
    | zero => exact .cons k r
    | succ i => exact .cons h (ih i)
theorem VRs.rep {xs : List V} {vs : List Value} (h : VRs ρ σ xs vs) : ∀ n, VRs ρ σ (rep xs n) (List.flatten (List.replicate n vs))
  | 0 => .nil
  | n + 1 => by rw [List.replicate_succ, List.flatten_cons]; exact h.append (VRs.rep h n)
theorem VRs.split {xs : List V} {vs : List Value} (h : VRs ρ σ xs vs) : (xs = [] ∧ vs = []) ∨ ∃ x v r t, xs = x :: r ∧ vs = v :: t ∧ VR ρ σ x v ∧ VRs ρ σ r t := by
  cases h with
  | nil => exact .inl ⟨rfl, rfl⟩
  | cons h r => exact .inr ⟨_, _, _, _, rfl, rfl, h, r⟩
theorem VRs.dropLast {xs : List V} {vs : List Value} (h : VRs ρ σ xs vs) : VRs ρ σ xs.dropLast vs.dropLast := by
  induction h with
  | nil => exact .nil
  | cons h r ih =>
    cases r with
    | nil => exact .nil
    | cons h' r' => exact .cons h ih
theorem VRs.map {α : Type} {f : α → V} {g : α → Value} {l : List α} (h : ∀ x ∈ l, VR ρ σ (f x) (g x)) : VRs ρ σ (l.map f) (l.map g) := by
  induction l with
  | nil => exact .nil
  | cons x r ih => exact .cons (h x (.head _)) (ih fun y hy => h y (.tail _ hy))
end

/-! own objects in the heap -/
abbrev tupO (vs : Array Value) (c : Nat) : Obj := { cls := .type "tuple", data := .seq vs c }
def OR (ρ : Nat → Int) (σ : List Addr) (h : Heap) (a : Addr) : O → Prop
  | .list xs => ∃ vs c, h.get? a = some (listOf (List.toArray vs) c) ∧ VRs ρ σ xs vs
  | .tup xs => ∃ vs c, h.get? a = some (tupO (List.toArray vs) c) ∧ VRs ρ σ xs vs
  | .cell v => ∃ v', h.IsCell a v' ∧ VO ρ σ v v'

theorem OR.ext {ρ : Nat → Int} {σ τ : List Addr} {h h' : Heap} {a : Addr} {o : O} (x : OR ρ σ h a o) (hk : ∀ ob, h.get? a = some ob → h'.get? a = some ob) : OR ρ (σ ++ τ) h' a o := by
  cases o with
  | list xs => obtain ⟨vs, c, e, r⟩ := x; exact ⟨vs, c, hk _ e, r.ext⟩
  | tup xs => obtain ⟨vs, c, e, r⟩ := x; exact ⟨vs, c, hk _ e, r.ext⟩
  | cell v => obtain ⟨v', ⟨ob, e, d⟩, r⟩ := x; exact ⟨v', ⟨ob, hk _ e, d⟩, r.ext⟩
theorem OR.live {ρ : Nat → Int} {σ : List Addr} {h : Heap} {a : Addr} {o : O} (x : OR ρ σ h a o) : ∃ ob, h.get? a = some ob := by
  cases o with
  | list xs => obtain ⟨vs, c, e, r⟩ := x; exact ⟨_, e⟩
  | tup xs => obtain ⟨vs, c, e, r⟩ := x; exact ⟨_, e⟩
  | cell v => obtain ⟨v', ⟨ob, e, d⟩, r⟩ := x; exact ⟨_, e⟩

structure HR (ρ : Nat → Int) (σ : List Addr) (H : List O) (h : Heap) : Prop where
  len : σ.length = H.length
  obj : ∀ (n : Nat) (o : O) (a : Addr), H[n]? = some o → σ[n]? = some a → OR ρ σ h a o

theorem HR.at {ρ σ H h} (x : HR ρ σ H h) {n : Nat} {o : O} (e : H[n]? = some o) : ∃ a, σ[n]? = some a ∧ OR ρ σ h a o := by
  have hn : n < H.length := (List.getElem?_eq_some_iff.mp e).1
  have hn' : n < σ.length := by rw [x.len]; exact hn
  exact ⟨σ[n], List.getElem?_eq_getElem hn', x.obj n o _ e (List.getElem?_eq_getElem hn')⟩
theorem HR.live {ρ σ H h} (x : HR ρ σ H h) {n : Nat} {a : Addr} (e : σ[n]? = some a) : ∃ ob, h.get? a = some ob := by
  have hn : n < σ.length := (List.getElem?_eq_some_iff.mp e).1
  have hn' : n < H.length := by rw [← x.len]; exact hn
  exact (x.obj n _ a (List.getElem?_eq_getElem hn') e).live

/-! frames -/
def SlR (ρ : Nat → Int) (σ : List Addr) (m : Str → Option Value) (cl : List (Str × Addr)) : (Str × NameKind) → Sl → Prop
  | (x, .local), .loc v => VO ρ σ v (m x)
  | (x, .cell), .cel n => ∃ a, σ[n]? = some a ∧ cl.lookup x = some a
  | (x, .free), .cel n => ∃ a, σ[n]? = some a ∧ cl.lookup x = some a
  | (_, .globalImplicit), .oth => True
  | _, _ => False

inductive SlRs (ρ : Nat → Int) (σ : List Addr) (m : Str → Option Value) (cl : List (Str × Addr)) : List (Str × NameKind) → List Sl → Prop
  | nil : SlRs ρ σ m cl [] []
  | cons {p s ps ss} : SlR ρ σ m cl p s → SlRs ρ σ m cl ps ss → SlRs ρ σ m cl (p :: ps) (s :: ss)

section
variable {ρ : Nat → Int} {σ τ : List Addr} {m : Str → Option Value} {cl : List (Str × Addr)} {nm : List (Str × NameKind)} {sl : List Sl}
theorem SlR.ext {p : Str × NameKind} {s : Sl} (h : SlR ρ σ m cl p s) : SlR ρ (σ ++ τ) m cl p s := by
  obtain ⟨x, k⟩ := p
  cases k <;> cases s <;> first | exact h.elim | exact VO.ext h | (obtain ⟨a, e, r⟩ := h; exact ⟨a, get_ext e, r⟩) | trivial
theorem SlRs.ext (h : SlRs ρ σ m cl nm sl) : SlRs ρ (σ ++ τ) m cl nm sl := by
  induction h with
  | nil => exact .nil
  | cons h _ ih => exact .cons h.ext ih
theorem SlRs.get (h : SlRs ρ σ m cl nm sl) : ∀ {i : Nat} {p : Str × NameKind} {s : Sl}, nm[i]? = some p → sl[i]? = some s → SlR ρ σ m cl p s := by
  induction h with
  | nil => intro i p s e; simp at e
  | cons h _ ih =>
    intro i p s e e'
    cases i with
    | zero => simp at e e'; subst e; subst e'; exact h
    | succ i => simp at e e'; exact ih e e'
theorem SlR.other {p : Str × NameKind} {s : Sl} {x : Str} {v : Value} (h : SlR ρ σ m cl p s) (hx : p.1 ≠ x) : SlR ρ σ (fun y => if y = x then some v else m y) cl p s := by
  obtain ⟨y, k⟩ := p
  cases k <;> cases s <;> first | exact h.elim | (show VO _ _ _ (if y = x then some v else m y); rw [if_neg hx]; exact h) | exact h
theorem SlRs.other {x : Str} {v : Value} (h : SlRs ρ σ m cl nm sl) (hx : ∀ p ∈ nm, p.1 ≠ x) : SlRs ρ σ (fun y => if y = x then some v else m y) cl nm sl := by
  induction h with
  | nil => exact .nil
  | cons h _ ih => exact .cons (h.other (hx _ (.head _))) (ih fun p hp => hx p (.tail _ hp))
theorem SlRs.set {x : Str} {v : Value} {u : V} (hv : VR ρ σ u v) (h : SlRs ρ σ m cl nm sl) : ∀ {i : Nat}, (nm.map (·.1)).Nodup → nm[i]? = some (x, .local) → SlRs ρ σ (fun y => if y = x then some v else m y) cl nm (sl.set i (.loc (some u))) := by
  induction h with
  | nil => intro i _ e; simp at e
  | @cons p s ps ss h r ih =>
    intro i nd e
    simp only [List.map_cons, List.nodup_cons] at nd
    cases i with
    | zero =>
      simp at e
      subst e
      refine .cons ?_ (r.other fun q hq e => nd.1 (List.mem_map.mpr ⟨q, hq, e⟩))
      show VO ρ σ (some u) (if x = x then some v else m x)
      rw [if_pos rfl]; exact hv
    | succ i =>
      simp at e
      refine .cons (h.other fun e' => nd.1 ?_) (ih nd.2 e)
      rw [e']
      exact List.mem_map.mpr ⟨(x, .local), List.mem_of_getElem? e, rfl⟩
end

structure Inv (ρ : Nat → Int) (hb : Heap) (nm : List (Str × NameKind)) (env : Env) (fm : Fm) (H : List O) (σ : List Addr) (h : Heap) : Prop where
  kind : env.scope.kind = .function
  names : env.scope.names = nm
  glob : env.globals = mainGlobals
  bt : env.builtins = builtinsNs
  base : ∀ b o, hb.get? b = some o → h.get? b = some o
  nd : (nm.map (·.1)).Nodup
  ns : ∃ m, h.Ns env.locals m ∧ SlRs ρ σ m env.cells nm fm.sl
  hr : HR ρ σ H h
  nodup : σ.Nodup
  loc : env.locals ∉ σ
  lb : hb.get? env.locals = none
  mtb : ∀ (n : Nat) (a : Addr), fm.fz ≤ n → σ[n]? = some a → hb.get? a = none
  fzle : fm.fz ≤ H.length

structure Step (env : Env) (fz : Nat) (σ : List Addr) (h : Heap) (σ' : List Addr) (h' : Heap) : Prop where
  ext : ∃ τ, σ' = σ ++ τ ∧ ∀ a ∈ τ, h.get? a = none
  keep : ∀ b o, b ≠ env.locals → (∀ n : Nat, fz ≤ n → σ[n]? ≠ some b) → h.get? b = some o → h'.get? b = some o

theorem Step.refl {env fz σ h} : Step env fz σ h σ h := ⟨⟨[], by simp, by simp⟩, fun _ _ _ _ e => e⟩

theorem mem_getQ {α : Type} {l : List α} {a : α} (h : a ∈ l) : ∃ n : Nat, l[n]? = some a := by
  obtain ⟨n, hn, e⟩ := List.mem_iff_getElem.mp h
  exact ⟨n, by rw [List.getElem?_eq_getElem hn, e]⟩

theorem Step.trans {ρ hb nm env fm H σ h σ' h' σ'' h''} (I : Inv ρ hb nm env fm H σ' h') (x : Step env fm.fz σ h σ' h') (y : Step env fm.fz σ' h' σ'' h'') : Step env fm.fz σ h σ'' h'' := by
  obtain ⟨τ, rfl, f1⟩ := x.ext
  obtain ⟨τ', rfl, f2⟩ := y.ext
  have key : ∀ b o, h.get? b = some o → ∃ o', h'.get? b = some o' := fun b o e => by
    by_cases hL : b = env.locals
    · subst hL; obtain ⟨m, ⟨o', es, ep, e', r⟩, _⟩ := I.ns; exact ⟨o', e'⟩
    · by_cases hm : ∃ n, fm.fz ≤ n ∧ σ[n]? = some b
      · obtain ⟨n, _, hn⟩ := hm
        exact I.hr.live (get_ext hn)
      · exact ⟨o, x.keep b o hL (fun n hn q => hm ⟨n, hn, q⟩) e⟩
  refine ⟨⟨τ ++ τ', by rw [List.append_assoc], fun a ha => ?_⟩, fun b o hL hM e => ?_⟩
  · rcases List.mem_append.mp ha with ha | ha
    · exact f1 a ha
    · cases q : h.get? a with
      | none => rfl
      | some o => obtain ⟨o', e'⟩ := key a o q; rw [f2 a ha] at e'; cases e'
  · refine y.keep b o hL (fun n hn q => ?_) (x.keep b o hL hM e)
    rcases Nat.lt_or_ge n σ.length with hlt | hge
    · rw [List.getElem?_append_left hlt] at q
      exact hM n hn q
    · rw [List.getElem?_append_right hge] at q
      rw [f1 b (List.mem_of_getElem? q)] at e; cases e

theorem Inv.kept {ρ hb nm env fm H σ h h'} (I : Inv ρ hb nm env fm H σ h) (hk : ∀ b o, h.get? b = some o → h'.get? b = some o) : Inv ρ hb nm env fm H σ h' :=
  { I with
    base := fun b o e => hk b o (I.base b o e)
    ns := let ⟨m, a, b⟩ := I.ns; ⟨m, a.keeps hk, b⟩
    hr := ⟨I.hr.len, fun n o a e e' => by have := (I.hr.obj n o a e e').ext (τ := []) fun ob q => hk a ob q; simpa using this⟩ }
theorem Step.kept {env fz σ h h'} (hk : ∀ b o, h.get? b = some o → h'.get? b = some o) : Step env fz σ h σ h' := ⟨⟨[], by simp, by simp⟩, fun b o _ _ e => hk b o e⟩

/-- a new own object -/
theorem Inv.push {ρ hb nm env fm H σ h h' D o} (I : Inv ρ hb nm env fm H σ h) (hk : ∀ b o, h.get? b = some o → h'.get? b = some o) (hD : h.get? D = none) (ho : OR ρ (σ ++ [D]) h' D o) :
    Inv ρ hb nm env fm (H ++ [o]) (σ ++ [D]) h' where
  kind := I.kind
  names := I.names
  glob := I.glob
  bt := I.bt
  base := fun b o e => hk b o (I.base b o e)
  nd := I.nd
  ns := let ⟨m, a, b⟩ := I.ns; ⟨m, a.keeps hk, b.ext⟩
  hr := ⟨by simp [I.hr.len], fun n o' a e e' => by
    rcases Nat.lt_or_ge n H.length with hlt | hge
    · rw [List.getElem?_append_left hlt] at e
      rw [List.getElem?_append_left (by rw [I.hr.len]; exact hlt)] at e'
      exact (I.hr.obj n o' a e e').ext fun ob q => hk a ob q
    · have hn : n = H.length := by
        have := (List.getElem?_eq_some_iff.mp e).1
        simp at this; omega
      subst hn
      simp at e
      rw [← I.hr.len] at e'
      simp at e'
      subst e; subst e'
      exact ho⟩
  nodup := List.nodup_append.mpr ⟨I.nodup, by simp, fun a ha b hb' e => by
    simp at hb'
    subst hb'; subst e
    obtain ⟨n, hn⟩ := mem_getQ ha
    obtain ⟨ob, q⟩ := I.hr.live hn
    rw [hD] at q; cases q⟩
  loc := fun hm => by
    rcases List.mem_append.mp hm with hm | hm
    · exact I.loc hm
    · simp at hm
      obtain ⟨m, ⟨o', es, ep, e', r⟩, _⟩ := I.ns
      rw [hm, hD] at e'; cases e'
  lb := I.lb
  mtb := fun n a hn e => by
    rcases Nat.lt_or_ge n σ.length with hlt | hge
    · rw [List.getElem?_append_left hlt] at e; exact I.mtb n a hn e
    · rw [List.getElem?_append_right hge] at e
      have : a ∈ [D] := List.mem_of_getElem? e
      simp at this
      subst this
      cases q : hb.get? a with
      | none => rfl
      | some o => have := I.base a o q; rw [hD] at this; cases this
  fzle := by have := I.fzle; simp; omega
theorem Step.push {env fz σ h h' D} (hk : ∀ b o, h.get? b = some o → h'.get? b = some o) (hD : h.get? D = none) : Step env fz σ h (σ ++ [D]) h' :=
  ⟨⟨[D], rfl, by simpa using hD⟩, fun b o _ _ e => hk b o e⟩

theorem nodup_get {α : Type} {l : List α} (h : l.Nodup) {i j : Nat} {a : α} (e : l[i]? = some a) (e' : l[j]? = some a) : i = j := by
  obtain ⟨hi, q⟩ := List.getElem?_eq_some_iff.mp e
  obtain ⟨hj, q'⟩ := List.getElem?_eq_some_iff.mp e'
  rcases Nat.lt_trichotomy i j with hlt | heq | hgt
  · exact absurd (q.trans q'.symm) (List.pairwise_iff_getElem.mp h i j hi hj hlt)
  · exact heq
  · exact absurd (q'.trans q.symm) (List.pairwise_iff_getElem.mp h j i hj hi hgt)

/-- an own object turned -/
theorem Inv.upd {ρ hb nm env fm H σ h h' n D o o'} (I : Inv ρ hb nm env fm H σ h) (hn : fm.fz ≤ n) (ho : H[n]? = some o) (hD : σ[n]? = some D) (hs : Heap.SameBut D h h') (hx : OR ρ σ h' D o') :
    Inv ρ hb nm env fm (H.set n o') σ h' where
  kind := I.kind
  names := I.names
  glob := I.glob
  bt := I.bt
  base := fun b o e => (hs.2 b (fun q => by rw [q, I.mtb n D hn hD] at e; cases e)).trans (I.base b o e)
  nd := I.nd
  ns := let ⟨m, a, b⟩ := I.ns; ⟨m, a.sameBut hs (fun e => I.loc (e ▸ List.mem_of_getElem? hD)), b⟩
  hr := ⟨by simp [I.hr.len], fun k o'' a e e' => by
    by_cases hk : k = n
    · subst hk
      have hlt : k < H.length := (List.getElem?_eq_some_iff.mp ho).1
      rw [List.getElem?_set_self hlt] at e
      cases e
      rw [hD] at e'; cases e'
      exact hx
    · rw [List.getElem?_set_ne (Ne.symm hk)] at e
      have ha : a ≠ D := fun q => hk (nodup_get I.nodup e' (q ▸ hD))
      have := (I.hr.obj k o'' a e e').ext (τ := []) (h' := h') fun ob q => (hs.2 a ha).trans q
      simpa using this⟩
  nodup := I.nodup
  loc := I.loc
  lb := I.lb
  mtb := I.mtb
  fzle := by have := I.fzle; simpa using this
theorem Step.upd {env fz σ h h' n D} (hn : fz ≤ n) (hD : σ[n]? = some D) (hs : Heap.SameBut D h h') : Step env fz σ h σ h' :=
  ⟨⟨[], by simp, by simp⟩, fun b o _ hM e => (hs.2 b (fun q => hM n hn (q ▸ hD))).trans e⟩

/-- a local name bound -/
theorem Inv.setL {ρ hb nm env fm H σ h h' i x v u} (I : Inv ρ hb nm env fm H σ h) (hi : nm[i]? = some (x, .local)) (hv : VR ρ σ u v)
    (hn : ∀ m, h.Ns env.locals m → h'.Ns env.locals (fun y => if y = x then some v else m y)) (hs : Heap.SameBut env.locals h h') : Inv ρ hb nm env (setSl fm i u) H σ h' where
  kind := I.kind
  names := I.names
  glob := I.glob
  bt := I.bt
  base := fun b o e => (hs.2 b (fun q => by rw [q, I.lb] at e; cases e)).trans (I.base b o e)
  nd := I.nd
  ns := let ⟨m, a, b⟩ := I.ns; ⟨_, hn m a, b.set hv I.nd hi⟩
  hr := ⟨I.hr.len, fun n o a e e' => by
    have := (I.hr.obj n o a e e').ext (τ := []) (h' := h') fun ob q => (hs.2 a (fun z => I.loc (z ▸ List.mem_of_getElem? e'))).trans q
    simpa using this⟩
  nodup := I.nodup
  loc := I.loc
  lb := I.lb
  mtb := I.mtb
  fzle := I.fzle
theorem Step.setL {env : Env} {fz σ h h'} (hs : Heap.SameBut env.locals h h') : Step env fz σ h σ h' :=
  ⟨⟨[], by simp, by simp⟩, fun b o hL _ e => (hs.2 b hL).trans e⟩

end Mine
end
section
open PySem PySem.Calls PyProof.Rows PySem.W
namespace Mine
set_option maxRecDepth 10000
set_option autoImplicit false

abbrev Nm := List (Str × NameKind)

def opOf : Operator → Option Op
  | .Add => some .add
  | .Sub => some .sub
  | .Mult => some .mul
  | .Div => some .div
  | .FloorDiv => some .fdiv
  | .Mod => some .mod
  | .Pow => some .pow
  | _ => none
def cmOf : CmpOp → Option Cm
  | .Eq => some .eq
  | .NotEq => some .ne
  | .Lt => some .lt
  | .LtE => some .le
  | .Gt => some .gt
  | .GtE => some .ge
  | _ => none
def bopB : BoolOp → Bool
  | .And => true
  | .Or => false
def isStarE : PySem.Expr → Bool
  | .Starred _ _ => true
  | _ => false
def isSliceE : PySem.Expr → Bool
  | .Slice _ _ _ _ => true
  | _ => false
def fnNames : List Str := ["make_compact", "uncompact", "creation_sequence_to_weights", "weights_to_creation_sequence", "_law_runs", "_law_whole", "_law_numbers"]
def relabN (nm : Nm) (names : Nm) : Nm := names.map fun (n, k) => if (k == .free && nm.lookup n == some .cell) = true then (n, .cell) else (n, k)

inductive CSR (nm : Nm) : (Str × NameKind) → CS → Prop
  | loc (x : Str) : CSR nm (x, .local) .loc
  | fre (x : Str) (i : Nat) (k : NameKind) : nm[i]? = some (x, k) → (k = .cell ∨ k = .free) → CSR nm (x, .free) (.fre i)
  | oth (x : Str) : CSR nm (x, .globalImplicit) .oth
inductive CSRs (nm : Nm) : Nm → List CS → Prop
  | nil : CSRs nm [] []
  | cons {p c ps cs} : CSR nm p c → CSRs nm ps cs → CSRs nm (p :: ps) (c :: cs)

inductive TR (nm : Nm) : PySem.Expr → Tg → Prop
  | loc (n : Str) (p : Pos) (i : Nat) : nm[i]? = some (n, .local) → nm.lookup n = some .local → TR nm (.Name n p) (.loc i)
  | cel (n : Str) (p : Pos) (i : Nat) : nm[i]? = some (n, .cell) → nm.lookup n = some .cell → TR nm (.Name n p) (.cel i)
inductive TRs (nm : Nm) : List PySem.Expr → List Tg → Prop
  | nil : TRs nm [] []
  | cons {e t es ts} : TR nm e t → TRs nm es ts → TRs nm (e :: es) (t :: ts)
inductive NRs (nm : Nm) : List Str → List Tg → Prop
  | nil : NRs nm [] []
  | cons {n i ns ts} : nm[i]? = some (n, .local) → nm.lookup n = some .local → NRs nm ns ts → NRs nm (n :: ns) (.loc i :: ts)
inductive TP (nm : Nm) : PySem.Expr → List Tg → Bool → Prop
  | one {e t} : TR nm e t → TP nm e [t] false
  | two {e1 e2 t1 t2 k p} : TR nm e1 t1 → TR nm e2 t2 → TP nm (.Tuple [e1, e2] k p) [t1, t2] true

def biNames : List Str := ["len", "isinstance", "list", "range", "enumerate", "str", "tuple", "int", "dict", "TypeError"]
def gl (nm : Nm) (n : Str) : Prop := nm.lookup n = some .globalImplicit

mutual
inductive CE : Nm → PySem.Expr → X → Prop
  | dead {nm e} : isStarE e = false → CE nm e .dead
  | int {nm} (i : Int) (k : Nat) (p : Pos) : CE nm (.Constant (.int i) k p) (.cst (.int i))
  | str {nm} (s : Str) (k : Nat) (p : Pos) : CE nm (.Constant (.str s) k p) (.cst (.str s))
  | bool {nm} (b : Bool) (k : Nat) (p : Pos) : CE nm (.Constant (.bool b) k p) (.cst (.bool b))
  | none {nm} (k : Nat) (p : Pos) : CE nm (.Constant .none k p) (.cst .none)
  | loc {nm} (n : Str) (p : Pos) (i : Nat) : nm[i]? = some (n, .local) → nm.lookup n = some .local → (n == ("__debug__" : Str)) = false → CE nm (.Name n p) (.loc i)
  | cel {nm} (n : Str) (p : Pos) (i : Nat) : nm[i]? = some (n, .cell) → nm.lookup n = some .cell → (n == ("__debug__" : Str)) = false → CE nm (.Name n p) (.cel i)
  | fre {nm} (n : Str) (p : Pos) (i : Nat) : nm[i]? = some (n, .free) → nm.lookup n = some .free → (n == ("__debug__" : Str)) = false → (n == ("__classdict__" : Str)) = false → CE nm (.Name n p) (.cel i)
  | bin {nm a b x y op o p} : opOf op = some o → CE nm a x → CE nm b y → CE nm (.BinOp a op b p) (.bin o x y)
  | cmp {nm a b x y op o p} : cmOf op = some o → behindInMarks op b = false → CE nm a x → CE nm b y → CE nm (.Compare a [op] [b] p) (.cmp o x y)
  | neg {nm a x p} : CE nm a x → CE nm (.UnaryOp .USub a p) (.neg x)
  | inv {nm a x p} : CE nm a x → CE nm (.UnaryOp .Not a p) (.inv x)
  | bop {nm l xs op p} : CEs nm l xs → CE nm (.BoolOp op l p) (.bop (bopB op) xs)
  | ite {nm t a b x y z p} : CE nm t x → CE nm a y → CE nm b z → CE nm (.IfExp t a b p) (.ite x y z)
  | sub {nm a i x y p} : isSliceE i = false → CE nm a x → CE nm i y → CE nm (.Subscript a i p) (.sub x y)
  | cut {nm n r x p q} : CE nm (.Name n r) x → CE nm (.Subscript (.Name n r) (.Slice .none .none .none q) p) (.cut x)
  | lst {nm l xs p} : CEs nm l xs → CE nm (.List l p) (.lst xs)
  | tup {nm l xs k p} : CEs nm l xs → CE nm (.Tuple l k p) (.tup xs)
  | len {nm a x p q} : gl nm "len" → isStarE a = false → CE nm a x → CE nm (.Call (.Name "len" p) [a] [] q) (.len x)
  | isi {nm a x p q r} (T : Str) (T' : String) : gl nm "isinstance" → gl nm T → T ∈ biNames → bootBuiltins T = some (.type T') → isStarE a = false → CE nm a x → CE nm (.Call (.Name "isinstance" p) [a, .Name T r] [] q) (.isi T' x)
  | cpy {nm a x p q} : gl nm "list" → isStarE a = false → CE nm a x → CE nm (.Call (.Name "list" p) [a] [] q) (.cpy x)
  | rng {nm l xs p q} : gl nm "range" → CEs nm l xs → CE nm (.Call (.Name "range" p) l [] q) (.rng xs)
  | enu {nm a x p q} : gl nm "enumerate" → isStarE a = false → CE nm a x → CE nm (.Call (.Name "enumerate" p) [a] [] q) (.enu x)
  | join {nm a x k p q r} : isStarE a = false → (p.endLine == q.line) = true → CE nm a x → CE nm (.Call (.Attribute (.Constant (.str "") k r) "join" p) [a] [] q) (.join x)
  | pop0 {nm n i k p q r t} : (p.endLine == q.line) = true → CE nm (.Name n r) (.loc i) → CE nm (.Call (.Attribute (.Name n r) "pop" p) [.Constant (.int 0) k t] [] q) (.pop0 (.loc i))
  | pop {nm n i p q r} : (p.endLine == q.line) = true → CE nm (.Name n r) (.loc i) → CE nm (.Call (.Attribute (.Name n r) "pop" p) [] [] q) (.pop (.loc i))
  | app {nm n i a x p q r} : isStarE a = false → (p.endLine == q.line) = true → CE nm (.Name n r) (.loc i) → CE nm a x → CE nm (.Call (.Attribute (.Name n r) "append" p) [a] [] q) (.app (.loc i) x)
  | ext {nm n i a x p q r} : isStarE a = false → (p.endLine == q.line) = true → CE nm (.Name n r) (.loc i) → CE nm a x → CE nm (.Call (.Attribute (.Name n r) "extend" p) [a] [] q) (.ext (.loc i) x)
  | rev {nm n i p q r} : (p.endLine == q.line) = true → CE nm (.Name n r) (.loc i) → CE nm (.Call (.Attribute (.Name n r) "reverse" p) [] [] q) (.rev (.loc i))
  | srt {nm n i p q r} : (p.endLine == q.line) = true → CE nm (.Name n r) (.loc i) → CE nm (.Call (.Attribute (.Name n r) "sort" p) [] [] q) (.srt (.loc i))
  | comp {nm elt tg it ifs sc p x tgs pr itx ifx csl} : sc.kind = .function → (sc.names.map (·.1)).Nodup → CSRs nm sc.names csl → (∀ env v, foldedSetIterable it env v = pure v) →
      TP (relabN nm sc.names) tg tgs pr → CE nm it itx → CEs (relabN nm sc.names) ifs ifx → CE (relabN nm sc.names) elt x → CE nm (.ListComp elt [⟨tg, it, ifs, 0⟩] sc p) (.comp x tgs pr itx ifx csl)
  | call {nm f args xs p q} (k : Nat) : fnNames[k]? = some f → gl nm f → (f == ("__debug__" : Str)) = false → args ≠ [] → CEs nm args xs → CE nm (.Call (.Name f p) args [] q) (.call k xs)
  | refu {nm k p q r t} : gl nm "_law_refused" → CE nm (.Call (.Name "_law_refused" p) [.List [.Constant .none k r] t] [] q) .refu
inductive CEs : Nm → List PySem.Expr → List X → Prop
  | nil {nm} : CEs nm [] []
  | cons {nm e x es xs} : isStarE e = false → CE nm e x → CEs nm es xs → CEs nm (e :: es) (x :: xs)
end

def isCompE : PySem.Expr → Bool
  | .ListComp .. | .SetComp .. | .DictComp .. => true
  | _ => false
def isTupE : PySem.Expr → Bool
  | .Tuple .. => true
  | _ => false

mutual
inductive CSt : Nm → PySem.Stmt → S → Prop
  | dead {nm s} : CSt nm s .dead
  | asg {nm n r p e tg x} : (∀ env : Env, env.scope.names = nm → env.scope.kind = .function → swapsWith e (some (.Name n r)) p.line env = pure false) → TR nm (.Name n r) tg → CE nm e x → CSt nm (.Assign [.Name n r] e p) (.asg tg x)
  | asgC {nm n r p elt gens sc q i x} : (∀ env : Env, env.scope.names = nm → env.scope.kind = .function → swapsWith (.ListComp elt gens sc q) (some (.Name n r)) p.line env = pure true) → TR nm (.Name n r) (.loc i) → CE nm (.ListComp elt gens sc q) x →
      CSt nm (.Assign [.Name n r] (.ListComp elt gens sc q) p) (.asg (.loc i) x)
  | asgT {nm ts k r p e tgs x} : isCompE e = false → isTupE e = false → TRs nm ts tgs → CE nm e x → CSt nm (.Assign [.Tuple ts k r] e p) (.asgT tgs x)
  | asgW {nm ts k r p es k' r' tgs x} (ns : List Str) : (∀ env : Env, env.scope.names = nm → env.scope.kind = .function → swappedStores [.Tuple ts k r] (.Tuple es k' r') env = pure (some ns)) →
      NRs nm ns tgs → CE nm (.Tuple es k' r') x → CSt nm (.Assign [.Tuple ts k r] (.Tuple es k' r') p) (.asgW tgs x)
  | sto {nm o i e r p x y z} : isSliceE i = false → isCompE e = false → CE nm o x → CE nm i y → CE nm e z → CSt nm (.Assign [.Subscript o i r] e p) (.sto x y z)
  | aug {nm n r e p i x} : nm[i]? = some (n, .local) → nm.lookup n = some .local → CE nm e x → CSt nm (.AugAssign (.Name n r) .Add e p) (.aug i x)
  | augs {nm o i e r p x y z} : isSliceE i = false → CE nm o x → CE nm i y → CE nm e z → CSt nm (.AugAssign (.Subscript o i r) .Add e p) (.augs x y z)
  | exp {nm e p x} : isCompE e = false → CE nm e x → CSt nm (.Expr e p) (.exp x)
  | ifs {nm t a b p x y z} : CE nm t x → CSts nm a y → CSts nm b z → CSt nm (.If t a b p) (.ifs x y z)
  | whl {nm t b p x y} : CE nm t x → CSts nm b y → CSt nm (.While t b [] p) (.whl x y)
  | fr {nm tg it b p tgs pr x y} : (∀ env v, foldedSetIterable it env v = pure v) → TP nm tg tgs pr → CE nm it x → CSts nm b y → CSt nm (.For tg it b [] p) (.fr tgs pr x y)
  | ret {nm e p x} : CE nm e x → CSt nm (.Return (some e) p) (.ret x)
  | rais {nm p q r t k} (m : Str) : gl nm "TypeError" → m.length ≤ 100 → CSt nm (.Raise (some (.Call (.Name "TypeError" p) [.Constant (.str m) k q] [] r)) none t) .rais
  | trc {nm p q r t f a x h hs pp qq x'} (k : Nat) : fnNames[k]? = some f → gl nm f → (f == ("__debug__" : Str)) = false → isStarE a = false → CE nm a x → gl nm "TypeError" → CSts nm (h :: hs) x' → CSt nm (.Try [.Expr (.Call (.Name f p) [a] [] q) r] [.ExceptHandler (some (.Name "TypeError" pp)) none (h :: hs) qq] [] [] t) (.trc k x x')
inductive CSts : Nm → List PySem.Stmt → List S → Prop
  | nil {nm} : CSts nm [] []
  | cons {nm s x ss xs} : CSt nm s x → CSts nm ss xs → CSts nm (s :: ss) (x :: xs)
end

/-! what stands at the top -/
structure GF (hb : Heap) (mg mb : Str → Option Value) : Prop where
  g : hb.Ns mainGlobals mg
  b : hb.Ns builtinsNs mb
  nolimit : hb.NoLimit
  booked : NoneBooked hb
  bi : ∀ x ∈ biNames, mg x = none ∧ mb x = bootBuiltins x

def OkA (n : Nat) (A : Around) : Prop := A.handled = none ∧ A.depth + n < 900 ∧ A.units + 8 * n < 9000
theorem OkA.pred {n : Nat} {A : Around} (h : OkA (n + 1) A) : OkA n A := ⟨h.1, by have := h.2.1; omega, by have := h.2.2; omega⟩
theorem OkA.deeper {n : Nat} {A : Around} {env : Env} (h : OkA (n + 1) A) : OkA n (A.deeper env) :=
  ⟨h.1, by have := h.2.1; show A.depth + 1 + n < 900; omega, by have := h.2.2; show A.units + 3 + 8 * n < 9000; omega⟩
theorem OkA.cline {n : Nat} {A : Around} (h : OkA n A) (k : Nat) (hk : k ≤ 800 := by decide) : A.units + k < cLine := by
  have := h.2.2
  show A.units + k < 9900
  omega

section
variable (prog : Program) (w : World) (ρ : Nat → Int) (hb : Heap) (K : Orc) (P : List FnD)

abbrev Post (nm : Nm) (env : Env) (fm : Fm) (σ : List Addr) (s : Shared) (H' : List O) (v : V) (Q : Value → Shared → Prop) : Prop :=
  ∀ v' h' tk σ', Inv ρ hb nm env fm H' σ' h' → Step env fm.fz σ s.heap σ' h' → VR ρ σ' v v' → Q v' { s with heap := h', toks := tk }
abbrev PostB (nm : Nm) (env : Env) (fm : Fm) (σ : List Addr) (s : Shared) (H' : List O) (b : Bool) (Q : Bool → Shared → Prop) : Prop :=
  ∀ h' tk σ', Inv ρ hb nm env fm H' σ' h' → Step env fm.fz σ s.heap σ' h' → Q b { s with heap := h', toks := tk }
abbrev PostL (nm : Nm) (env : Env) (fm : Fm) (σ : List Addr) (s : Shared) (H' : List O) (vs : List V) (Q : List Value → Shared → Prop) : Prop :=
  ∀ vs' h' tk σ', Inv ρ hb nm env fm H' σ' h' → Step env fm.fz σ s.heap σ' h' → VRs ρ σ' vs vs' → Q vs' { s with heap := h', toks := tk }
def RR (ρ : Nat → Int) (σ : List Addr) : R → Flow → Prop
  | .next, .next => True
  | .ret v, .ret v' => VR ρ σ v v'
  | _, _ => False
abbrev PostS (nm : Nm) (env : Env) (fm : Fm) (σ : List Addr) (s : Shared) (H' : List O) (fm' : Fm) (r : R) (Q : Flow → Shared → Prop) : Prop :=
  ∀ f h' tk σ', fm'.fz = fm.fz → Inv ρ hb nm env fm' H' σ' h' → Step env fm.fz σ s.heap σ' h' → RR ρ σ' r f → Q f { s with heap := h', toks := tk }

/-- the same with the tokens told -/
abbrev PT {α : Type} (Q : α → Shared → Prop) : α → Shared → Prop := fun a s' => 1 ≤ s'.toks → Q a s'

structure Sound (r : Rec) (n : Nat) : Prop where
  ev : ∀ {nm : Nm} {env : Env} {fm : Fm} {H : List O} {σ : List Addr} {s : Shared} {e : PySem.Expr} {x : X} {v : V} {H' : List O} {A : Around} {E : Value → Shared → Prop} {Q : Value → Shared → Prop},
    OkA n A → 1 ≤ s.toks → CE nm e x → Inv ρ hb nm env fm H σ s.heap → r.ev fm H x = some (v, H') → Post ρ hb nm env fm σ s H' v (PT Q) → wpAny (model prog w) A (eval e env) Q E s
  ts : ∀ {nm : Nm} {env : Env} {fm : Fm} {H : List O} {σ : List Addr} {s : Shared} {e : PySem.Expr} {x : X} {b : Bool} {H' : List O} {A : Around} {E : Value → Shared → Prop} {Q : Bool → Shared → Prop},
    OkA n A → 1 ≤ s.toks → CE nm e x → Inv ρ hb nm env fm H σ s.heap → r.ts fm H x = some (b, H') → PostB ρ hb nm env fm σ s H' b (PT Q) → wpAny (model prog w) A (isTrue e env (eval e env)) Q E s
  st : ∀ {nm : Nm} {env : Env} {fm : Fm} {H : List O} {σ : List Addr} {s : Shared} {e : PySem.Stmt} {x : S} {o : R} {fm' : Fm} {H' : List O} {A : Around} {E : Value → Shared → Prop} {Q : Flow → Shared → Prop},
    OkA n A → 1 ≤ s.toks → CSt nm e x → Inv ρ hb nm env fm H σ s.heap → r.st fm H x = some (o, fm', H') → PostS ρ hb nm env fm σ s H' fm' o (PT Q) → wpAny (model prog w) A (exec e env) Q E s

theorem sound0 : Sound prog w ρ hb (run K P 0) 0 where
  ev := fun _ _ _ _ h _ => nomatch h
  ts := fun _ _ _ _ h _ => nomatch h
  st := fun _ _ _ _ h _ => nomatch h
end

section
variable {prog : Program} {w : World} {ρ : Nat → Int} {hb : Heap} {K : Orc} {P : List FnD} {r : Rec} {n : Nat} {nm : Nm} {env : Env} {fm : Fm} {H H' H1 : List O} {σ σ1 : List Addr} {s : Shared} {A : Around} {E : Value → Shared → Prop}
  {h1 : Heap} {tk1 : Nat}
theorem Post.on {v : V} {Q : Value → Shared → Prop} (k : Post ρ hb nm env fm σ s H' v Q) (I : Inv ρ hb nm env fm H1 σ1 h1) (st : Step env fm.fz σ s.heap σ1 h1) : Post ρ hb nm env fm σ1 { s with heap := h1, toks := tk1 } H' v Q :=
  fun v' h' tk σ' I' st' hv => k v' h' tk σ' I' (Step.trans I st st') hv
theorem PostB.on {b : Bool} {Q : Bool → Shared → Prop} (k : PostB ρ hb nm env fm σ s H' b Q) (I : Inv ρ hb nm env fm H1 σ1 h1) (st : Step env fm.fz σ s.heap σ1 h1) : PostB ρ hb nm env fm σ1 { s with heap := h1, toks := tk1 } H' b Q :=
  fun h' tk σ' I' st' => k h' tk σ' I' (Step.trans I st st')
theorem PostL.on {vs : List V} {Q : List Value → Shared → Prop} (k : PostL ρ hb nm env fm σ s H' vs Q) (I : Inv ρ hb nm env fm H1 σ1 h1) (st : Step env fm.fz σ s.heap σ1 h1) : PostL ρ hb nm env fm σ1 { s with heap := h1, toks := tk1 } H' vs Q :=
  fun v' h' tk σ' I' st' hv => k v' h' tk σ' I' (Step.trans I st st') hv
theorem PostS.on {fm1 fm' : Fm} {o : R} {Q : Flow → Shared → Prop} (k : PostS ρ hb nm env fm σ s H' fm' o Q) (hf : fm1.fz = fm.fz) (I : Inv ρ hb nm env fm1 H1 σ1 h1) (st : Step env fm.fz σ s.heap σ1 h1) :
    PostS ρ hb nm env fm1 σ1 { s with heap := h1, toks := tk1 } H' fm' o Q :=
  fun f h' tk σ' e I' st' hr => k f h' tk σ' (e.trans hf) I' (by
    have st'' : Step env fm1.fz σ s.heap σ1 h1 := by rw [hf]; exact st
    have := Step.trans I st'' st'
    rwa [hf] at this) hr

/-! lists of expressions -/
theorem star_cons {e : PySem.Expr} {es : List PySem.Expr} (h : isStarE e = false) : starEach (e :: es) env = (false, eval e env) :: starEach es env := by
  cases e <;> first | rfl | (simp [isStarE] at h)
theorem star_plain {l : List PySem.Expr} {xs : List X} (h : CEs nm l xs) (p : Pos) : (backTo p (starEach l env)).any (·.1) = false := by
  induction l generalizing xs with
  | nil => rfl
  | cons e es ih =>
    cases h with
    | cons h1 _ h3 =>
      rw [star_cons h1]
      show (false || (backTo p (starEach es env)).any (·.1)) = false
      rw [ih h3]; rfl

theorem S_spliced (IH : Sound prog w ρ hb r n) (hA : OkA n A) {p : Pos} {l : List PySem.Expr} {xs : List X} (c : CEs nm l xs) : ∀ {H : List O} {σ : List Addr} {s : Shared} {vs : List V} {H' : List O} {Q : List Value → Shared → Prop},
    1 ≤ s.toks → Inv ρ hb nm env fm H σ s.heap → evL r fm H xs = some (vs, H') → PostL ρ hb nm env fm σ s H' vs Q → wpAny (model prog w) A (spliced (backTo p (starEach l env))) Q E s := by
  induction l generalizing xs with
  | nil =>
    intro H σ s vs H' Q ht I h k
    cases c
    simp only [evL, Option.some.injEq, Prod.mk.injEq] at h
    obtain ⟨rfl, rfl⟩ := h
    exact spliced_nil (k [] s.heap s.toks σ I Step.refl .nil)
  | cons e es ih =>
    intro H σ s vs H' Q ht I h k
    cases c with
    | @cons _ _ x _ xs h1 h2 h3 =>
      simp only [evL] at h
      split at h
      · rename_i v H1 q
        split at h
        · rename_i us H2 q2
          cases h
          rw [star_cons h1]
          refine spliced_cons (IH.ev hA ht h2 I q fun v' h' tk σ' I' st hv ht' => ?_)
          refine ih h3 ht' I' q2 fun us' h'' tk' σ'' I'' st' hus => ?_
          have := k (v' :: us') h'' tk' σ'' I'' (Step.trans I' st st') (.cons (by obtain ⟨τ, rfl, _⟩ := st'.ext; exact hv.ext) hus)
          exact this
        · cases h
      · cases h
end
end Mine
end
section
namespace Mine
def b_mk : List S := [.asg (.loc 1) (.sub (.loc 0) (.cst (.int 0))), .ifs (.isi "str" (.loc 1)) [.asg (.loc 2) (.cut (.loc 0))] [.ifs (.isi "tuple" (.loc 1)) [.asg (.loc 2) (.comp (.sub (.loc 1) (.cst (.int 1))) [.loc 1] false (.loc 0) [] [.loc, .loc])] [.ifs (.isi "int" (.loc 1)) [.ret (.loc 0)] [.rais]]], .asg (.loc 3) (.lst []), .asg (.loc 4) (.cst (.int 1)), .fr [.loc 5] false (.rng [.cst (.int 1), .len (.loc 2)]) [.ifs (.cmp .eq (.sub (.loc 2) (.loc 5)) (.sub (.loc 2) (.bin .sub (.loc 5) (.cst (.int 1))))) [.aug 4 (.cst (.int 1))] [.exp (.app (.loc 3) (.loc 4)), .asg (.loc 4) (.cst (.int 1))]], .exp (.app (.loc 3) (.loc 4)), .ret (.loc 3)]
def f_mk : FnD := ⟨1, [.par 0, .loc, .loc, .loc, .loc, .loc, .oth, .oth, .oth, .oth, .oth, .oth, .oth], [], b_mk⟩
def b_un : List S := [.asg (.loc 1) (.sub (.loc 0) (.cst (.int 0))), .ifs (.isi "str" (.loc 1)) [.ret (.loc 0)] [.ifs (.isi "tuple" (.loc 1)) [.ret (.loc 0)] [.ifs (.isi "int" (.loc 1)) [.asg (.loc 2) (.cut (.loc 0))] [.rais]]], .asg (.loc 3) (.lst []), .whl (.loc 2) [.exp (.ext (.loc 3) (.bin .mul (.pop0 (.loc 2)) (.lst [.cst (.str ⟨#[100]⟩)]))), .ifs (.loc 2) [.exp (.ext (.loc 3) (.bin .mul (.pop0 (.loc 2)) (.lst [.cst (.str ⟨#[105]⟩)])))] []], .ret (.loc 3)]
def f_un : FnD := ⟨1, [.par 0, .loc, .loc, .loc, .oth, .oth, .oth, .oth, .oth], [], b_un⟩
def b_cw : List S := [.asg (.loc 1) (.sub (.loc 0) (.cst (.int 0))), .ifs (.isi "str" (.loc 1)) [.ifs (.isi "list" (.loc 0)) [.asg (.loc 2) (.cut (.loc 0))] [.asg (.loc 2) (.cpy (.loc 0))]] [.ifs (.isi "tuple" (.loc 1)) [.asg (.loc 2) (.comp (.sub (.loc 1) (.cst (.int 1))) [.loc 1] false (.loc 0) [] [.loc, .loc])] [.ifs (.isi "int" (.loc 1)) [.asg (.loc 2) (.call 1 [.loc 0])] [.rais]]], .exp (.rev (.loc 2)), .asg (.loc 3) (.cst (.int 0)), .asg (.loc 4) (.cst (.str ⟨#[105]⟩)), .fr [.loc 5, .loc 6] true (.enu (.loc 2)) [.ifs (.cmp .eq (.loc 6) (.cst (.str ⟨#[105]⟩))) [.sto (.loc 2) (.loc 5) (.loc 3), .asg (.loc 4) (.loc 6)] [.ifs (.cmp .eq (.loc 4) (.cst (.str ⟨#[105]⟩))) [.asg (.loc 4) (.loc 6), .aug 3 (.cst (.int 1))] []]], .exp (.rev (.loc 2)), .fr [.loc 5, .loc 6] true (.enu (.loc 2)) [.ifs (.cmp .eq (.loc 6) (.cst (.str ⟨#[100]⟩))) [.sto (.loc 2) (.loc 5) (.loc 3), .asg (.loc 4) (.loc 6)] [.ifs (.cmp .eq (.loc 4) (.cst (.str ⟨#[100]⟩))) [.asg (.loc 4) (.loc 6), .aug 3 (.cst (.int 1))] []]], .ifs (.cmp .eq (.loc 4) (.cst (.str ⟨#[100]⟩))) [.aug 3 (.cst (.int 1))] [], .asg (.cel 7) (.bin .div (.cst (.int 1)) (.loc 3)), .ret (.comp (.bin .mul (.loc 1) (.cel 2)) [.loc 1] false (.loc 2) [] [.loc, .loc, .fre 7])]
def f_cw : FnD := ⟨1, [.par 0, .loc, .loc, .loc, .loc, .loc, .loc, .cel, .oth, .oth, .oth, .oth, .oth, .oth, .oth, .oth], [], b_cw⟩
def b_wc : List S := [.ifs (.bop true [.loc 2, .loc 3]) [.dead] [], .ifs (.isi "dict" (.loc 0)) [.asg (.loc 6) (.comp (.lst [.loc 2, .loc 1]) [.loc 1, .loc 2] true (.dead) [] [.loc, .loc, .loc])] [.asg (.loc 6) (.comp (.lst [.loc 2, .loc 1]) [.loc 1, .loc 2] true (.enu (.loc 0)) [] [.loc, .loc, .loc])], .exp (.srt (.loc 6)), .asg (.loc 7) (.lst []), .asg (.loc 8) (.bin .sub (.loc 1) (.sub (.sub (.loc 6) (.neg (.cst (.int 1)))) (.cst (.int 0)))), .whl (.loc 6) [.ifs (.cmp .lt (.sub (.sub (.loc 6) (.cst (.int 0))) (.cst (.int 0))) (.loc 8)) [.asgT [.loc 5, .loc 4] (.pop0 (.loc 6)), .exp (.app (.loc 7) (.tup [.loc 4, .cst (.str ⟨#[105]⟩)]))] [.asgT [.loc 5, .loc 4] (.pop (.loc 6)), .exp (.app (.loc 7) (.tup [.loc 4, .cst (.str ⟨#[100]⟩)])), .asg (.loc 8) (.bin .sub (.loc 1) (.sub (.sub (.loc 6) (.neg (.cst (.int 1)))) (.cst (.int 0))))], .ifs (.cmp .eq (.len (.loc 6)) (.cst (.int 1))) [.asgT [.loc 5, .loc 4] (.pop (.loc 6)), .exp (.app (.loc 7) (.tup [.loc 4, .cst (.str ⟨#[100]⟩)]))] []], .exp (.rev (.loc 7)), .ifs (.loc 2) [.ret (.loc 7)] [], .ifs (.loc 3) [.ret (.call 0 [.loc 7])] [], .ret (.comp (.sub (.loc 1) (.cst (.int 1))) [.loc 1] false (.loc 7) [] [.loc, .loc])]
def f_wc : FnD := ⟨4, [.par 0, .par 1, .par 2, .par 3, .loc, .loc, .loc, .loc, .loc, .oth, .oth, .oth, .oth, .oth, .oth], [.bool false, .bool false], b_wc⟩
def b_lr : List S := [.asg (.loc 1) (.lst []), .fr [.loc 2] false (.rng [.len (.loc 0)]) [.ifs (.bop true [.cmp .gt (.loc 2) (.cst (.int 0)), .cmp .eq (.sub (.loc 0) (.loc 2)) (.sub (.loc 0) (.bin .sub (.loc 2) (.cst (.int 1))))]) [.augs (.loc 1) (.neg (.cst (.int 1))) (.cst (.int 1))] [.exp (.app (.loc 1) (.cst (.int 1)))]], .ret (.loc 1)]
def f_lr : FnD := ⟨1, [.par 0, .loc, .loc, .oth, .oth], [], b_lr⟩
def b_lw : List S := [.asg (.loc 2) (.comp (.loc 1) [.loc 1] false (.rng [.len (.cel 0)]) [.bop false [.cmp .eq (.loc 1) (.cst (.int 0)), .cmp .ne (.sub (.cel 2) (.loc 1)) (.sub (.cel 2) (.bin .sub (.loc 1) (.cst (.int 1))))]] [.loc, .loc, .fre 0]), .asg (.loc 3) (.comp (.loc 1) [.loc 1] false (.loc 2) [.cmp .eq (.sub (.cel 2) (.loc 1)) (.cst (.str ⟨#[100]⟩))] [.loc, .loc, .fre 0]), .asg (.loc 4) (.comp (.loc 1) [.loc 1] false (.loc 2) [.cmp .eq (.sub (.cel 2) (.loc 1)) (.cst (.str ⟨#[105]⟩))] [.loc, .loc, .fre 0]), .asg (.loc 5) (.lst []), .fr [.cel 1] false (.rng [.len (.cel 0)]) [.ifs (.cmp .eq (.sub (.cel 0) (.cel 1)) (.cst (.str ⟨#[105]⟩))) [.exp (.app (.loc 5) (.len (.comp (.loc 1) [.loc 1] false (.loc 3) [.cmp .gt (.loc 1) (.cel 2)] [.loc, .loc, .fre 1])))] [.exp (.app (.loc 5) (.bin .add (.len (.loc 3)) (.len (.comp (.loc 1) [.loc 1] false (.loc 4) [.cmp .lt (.loc 1) (.cel 2)] [.loc, .loc, .fre 1]))))]], .ret (.tup [.loc 5, .len (.loc 3)])]
def f_lw : FnD := ⟨1, [.parc 0, .cel, .loc, .loc, .loc, .loc, .oth, .oth], [], b_lw⟩
def b_la : List S := [.asg (.cel 1) (.call 6 [.loc 0, .cst (.int 10)]), .asg (.loc 2) (.bin .add (.cst (.int 1)) (.bin .mod (.sub (.cel 1) (.cst (.int 0))) (.cst (.int 8)))), .asg (.cel 3) (.bin .add (.lst [.cst (.str ⟨#[100]⟩)]) (.comp (.ite (.cmp .eq (.bin .mod (.bin .fdiv (.sub (.cel 2) (.cst (.int 1))) (.bin .pow (.cst (.int 2)) (.loc 1))) (.cst (.int 2))) (.cst (.int 1))) (.cst (.str ⟨#[100]⟩)) (.cst (.str ⟨#[105]⟩))) [.loc 1] false (.rng [.bin .sub (.loc 2) (.cst (.int 1))]) [] [.loc, .loc, .fre 1])), .asg (.loc 4) (.comp (.tup [.bin .add (.bin .mul (.cst (.int 8)) (.sub (.cel 3) (.bin .add (.cst (.int 2)) (.loc 1)))) (.loc 1), .sub (.cel 2) (.loc 1)]) [.loc 1] false (.rng [.loc 2]) [] [.loc, .loc, .fre 3, .fre 1]), .asgW [.loc 5, .loc 6] (.tup [.join (.cel 3), .call 4 [.cel 3]]), .asgT [.loc 7, .cel 8] (.call 5 [.cel 3]), .asg (.loc 9) (.comp (.bin .mul (.loc 1) (.bin .div (.cst (.int 1)) (.bin .mul (.cst (.int 2)) (.cel 2)))) [.loc 1] false (.loc 7) [] [.loc, .loc, .fre 8]), .asgW [.loc 10, .loc 11, .loc 12] (.tup [.cpy (.cel 3), .cpy (.loc 4), .cpy (.loc 6)]), .ifs (.cmp .ne (.lst [.call 0 [.loc 5], .call 0 [.loc 10], .call 0 [.loc 11], .call 0 [.loc 12]]) (.bin .mul (.lst [.loc 6]) (.cst (.int 4)))) [.ret (.cst (.bool false))] [], .ifs (.bop false [.cmp .ne (.call 1 [.loc 12]) (.cel 3), .cmp .ne (.call 1 [.loc 10]) (.cel 3), .cmp .ne (.call 1 [.loc 11]) (.loc 4)]) [.ret (.cst (.bool false))] [], .asg (.loc 13) (.call 2 [.loc 10]), .ifs (.bop false [.cmp .ne (.loc 13) (.loc 9), .cmp .ne (.loc 10) (.cel 3), .cmp .ne (.loc 12) (.loc 6), .cmp .ne (.loc 11) (.loc 4)]) [.ret (.cst (.bool false))] [], .ifs (.cmp .ne (.lst [.call 2 [.loc 5], .call 2 [.loc 11], .call 2 [.loc 12]]) (.bin .mul (.lst [.loc 9]) (.cst (.int 3)))) [.ret (.cst (.bool false))] [], .ifs (.bop false [.cmp .ne (.loc 10) (.cel 3), .cmp .ne (.loc 12) (.loc 6), .cmp .ne (.loc 11) (.loc 4), .inv (.refu)]) [.ret (.cst (.bool false))] [], .fr [.loc 14] false (.rng [.loc 2]) [.fr [.loc 15] false (.rng [.loc 14]) [.ifs (.cmp .ne (.cmp .ge (.bin .add (.sub (.loc 7) (.loc 14)) (.sub (.loc 7) (.loc 15))) (.bin .mul (.cst (.int 2)) (.cel 8))) (.cmp .eq (.sub (.cel 3) (.loc 14)) (.cst (.str ⟨#[100]⟩)))) [.ret (.cst (.bool false))] []]], .ret (.bop false [.cmp .eq (.loc 2) (.cst (.int 1)), .cmp .eq (.call 3 [.cpy (.loc 7), .bin .mul (.cst (.int 2)) (.cel 8)]) (.cel 3)])]
def f_la : FnD := ⟨1, [.par 0, .cel, .loc, .cel, .loc, .loc, .loc, .loc, .cel, .loc, .loc, .loc, .loc, .loc, .loc, .loc, .oth, .oth, .oth, .oth, .oth, .oth, .oth, .oth, .oth, .oth], [], b_la⟩
def b_ln : List S := [.ret (.comp (.ite (.cmp .gt (.len (.cel 3)) (.cst (.int 0))) (.sub (.cel 3) (.bin .mod (.loc 1) (.len (.cel 3)))) (.cst (.int 0))) [.loc 1] false (.rng [.loc 1]) [] [.loc, .loc, .oth, .fre 0])]
def f_ln : FnD := ⟨2, [.parc 0, .par 1, .oth], [], b_ln⟩
def b_rf : List S := [.asg (.loc 1) (.lst []), .trc 0 (.loc 0) [.exp (.app (.loc 1) (.cst (.int 1)))], .trc 1 (.loc 0) [.exp (.app (.loc 1) (.cst (.int 2)))], .trc 2 (.loc 0) [.exp (.app (.loc 1) (.cst (.int 3)))], .ret (.cmp .eq (.loc 1) (.lst [.cst (.int 1), .cst (.int 2), .cst (.int 3)]))]
def f_rf : FnD := ⟨1, [.par 0, .loc, .oth, .oth, .oth, .oth], [], b_rf⟩
def PP : List FnD := [f_mk, f_un, f_cw, f_wc, f_lr, f_lw, f_ln]
def fmLaw (vs : List V) : List Sl × List O := mkF vs f_la.sl []
end Mine
end
section
namespace Mine
def lawSl : List Sl := [.loc (some .opq), .cel 0, .loc none, .cel 1, .loc none, .loc none, .loc none, .loc none, .cel 2, .loc none, .loc none, .loc none, .loc none, .loc none, .loc none, .loc none, .oth, .oth, .oth, .oth, .oth, .oth, .oth, .oth, .oth, .oth]
def lawH : List O := [.cell (some (.ref 3)), .cell none, .cell none, .list [.lin 1 0 0, .lin 1 1 0, .lin 1 2 0, .lin 1 3 0, .lin 1 4 0, .lin 1 5 0, .lin 1 6 0, .lin 1 7 0, .lin 1 8 0, .lin 1 9 0]]
def goodR : Option (R × Fm × List O) → Bool
  | some (.ret (.bool true), _, _) => true
  | _ => false
def b_pre : List S := (b_la.drop 1).take 12
def b_cs : List X := match (b_la[13]? : Option S) with
  | some (.ifs (.bop false [a, b, c, _]) _ _) => [a, b, c]
  | _ => []
def b_post : List S := b_la.drop 14
def rowOk (n : Nat) (r : Int) (bits : List Bool) : Bool := match stL (run ⟨some r, bits⟩ PP n) ⟨lawSl, 0⟩ lawH b_pre with
  | some (.next, fm1, H1) => match allT (run ⟨some r, bits⟩ PP n) fm1 false H1 b_cs with
    | some (false, H2) => goodR (stL (run ⟨some r, bits⟩ PP n) fm1 H2 b_post)
    | _ => false
  | _ => false
def bitL : Nat → Nat → List Bool
  | 0, _ => []
  | k + 1, m => (m % 2 == 1) :: bitL k (m / 2)
end Mine
end
section
open PySem PySem.Calls PyProof.Rows PySem.W
namespace Mine
set_option maxRecDepth 10000
set_option autoImplicit false
set_option linter.unusedVariables false

/-! the whole heap as a ledger -/
def fullN (h : Heap) (L : Addr) : List (Addr × Obj) := (List.range h.objs.size).filterMap fun b => if b = L then none else (h.get? b).map fun o => (b, o)
theorem mem_fullN {h : Heap} {L b : Addr} {o : Obj} (hb : b ≠ L) (e : h.get? b = some o) : (b, o) ∈ fullN h L :=
  List.mem_filterMap.mpr ⟨b, List.mem_range.mpr (Heap.lt_size e), by rw [if_neg hb, e]; rfl⟩
theorem of_fullN {h : Heap} {L : Addr} {p : Addr × Obj} (hp : p ∈ fullN h L) : p.1 ≠ L ∧ h.get? p.1 = some p.2 := by
  obtain ⟨b, _, e⟩ := List.mem_filterMap.mp hp
  split at e
  · cases e
  · rename_i hb
    cases q : h.get? b with
    | none => rw [q] at e; cases e
    | some o => rw [q] at e; cases e; exact ⟨hb, q⟩
theorem none_empty (b : Addr) : ({} : Heap).get? b = none := by
  unfold Heap.get?
  simp
theorem fullN_news (h : Heap) (L : Addr) : News {} L h (fullN h L) := fun p hp => ⟨(of_fullN hp).2, (of_fullN hp).1, none_empty _⟩
theorem fr_any {h : Heap} {L : Addr} {m : Str → Option Value} (hn : h.Ns L m) : Fr {} L h m := ⟨hn, fun b o e => (by rw [none_empty] at e; cases e), Nat.zero_le _⟩
theorem news_keep {h h' : Heap} {L : Addr} {news : List (Addr × Obj)} (N : News {} L h' news) (hs : ∀ p ∈ fullN h L, p ∈ news) : ∀ b o, b ≠ L → h.get? b = some o → h'.get? b = some o :=
  fun b o hb e => (N (b, o) (hs _ (mem_fullN hb e))).1

section
variable {ρ : Nat → Int} {hb : Heap} {nm : Nm} {env : Env} {fm : Fm} {H : List O} {σ : List Addr} {h h' : Heap} {D : Addr} {o : O}
/-- keeping all but the frame's own names, which read as before -/
theorem Inv.keptL (I : Inv ρ hb nm env fm H σ h) {m : Str → Option Value} (hn' : h'.Ns env.locals m) (hm : SlRs ρ σ m env.cells nm fm.sl) (hk : ∀ b o, b ≠ env.locals → h.get? b = some o → h'.get? b = some o) :
    Inv ρ hb nm env fm H σ h' :=
  { I with
    base := fun b o e => hk b o (fun q => by rw [q, I.lb] at e; cases e) (I.base b o e)
    ns := ⟨m, hn', hm⟩
    hr := ⟨I.hr.len, fun n o a e e' => by have := (I.hr.obj n o a e e').ext (τ := []) fun ob q => hk a ob (fun z => I.loc (z ▸ List.mem_of_getElem? e')) q; simpa using this⟩ }
theorem Step.keptL {fz : Nat} (hk : ∀ b o, b ≠ env.locals → h.get? b = some o → h'.get? b = some o) : Step env fz σ h σ h' := ⟨⟨[], by simp, by simp⟩, fun b o hL _ e => hk b o hL e⟩
theorem Inv.pushL (I : Inv ρ hb nm env fm H σ h) {m : Str → Option Value} (hn' : h'.Ns env.locals m) (hm : SlRs ρ σ m env.cells nm fm.sl) (hk : ∀ b o, b ≠ env.locals → h.get? b = some o → h'.get? b = some o)
    (hD : h.get? D = none) (hDL : D ≠ env.locals) (ho : OR ρ (σ ++ [D]) h' D o) : Inv ρ hb nm env fm (H ++ [o]) (σ ++ [D]) h' where
  kind := I.kind
  names := I.names
  glob := I.glob
  bt := I.bt
  base := fun b o e => hk b o (fun q => by rw [q, I.lb] at e; cases e) (I.base b o e)
  nd := I.nd
  ns := ⟨m, hn', hm.ext⟩
  hr := ⟨by simp [I.hr.len], fun n o' a e e' => by
    rcases Nat.lt_or_ge n H.length with hlt | hge
    · rw [List.getElem?_append_left hlt] at e
      rw [List.getElem?_append_left (by rw [I.hr.len]; exact hlt)] at e'
      exact (I.hr.obj n o' a e e').ext fun ob q => hk a ob (fun z => I.loc (z ▸ List.mem_of_getElem? e')) q
    · have hn : n = H.length := by
        have := (List.getElem?_eq_some_iff.mp e).1
        simp at this; omega
      subst hn
      simp at e
      rw [← I.hr.len] at e'
      simp at e'
      subst e; subst e'
      exact ho⟩
  nodup := List.nodup_append.mpr ⟨I.nodup, by simp, fun a ha b hb' e => by
    simp at hb'
    subst hb'; subst e
    obtain ⟨n, hn⟩ := mem_getQ ha
    obtain ⟨ob, q⟩ := I.hr.live hn
    rw [hD] at q; cases q⟩
  loc := fun hm => by
    rcases List.mem_append.mp hm with hm | hm
    · exact I.loc hm
    · simp at hm
      exact hDL hm.symm
  lb := I.lb
  mtb := fun n a hn e => by
    rcases Nat.lt_or_ge n σ.length with hlt | hge
    · rw [List.getElem?_append_left hlt] at e; exact I.mtb n a hn e
    · rw [List.getElem?_append_right hge] at e
      have : a ∈ [D] := List.mem_of_getElem? e
      simp at this
      subst this
      cases q : hb.get? a with
      | none => rfl
      | some o => have := I.base a o q; rw [hD] at this; cases this
  fzle := by have := I.fzle; simp; omega
theorem Step.pushL {fz : Nat} (hk : ∀ b o, b ≠ env.locals → h.get? b = some o → h'.get? b = some o) (hD : h.get? D = none) : Step env fz σ h (σ ++ [D]) h' :=
  ⟨⟨[D], rfl, by simpa using hD⟩, fun b o hL _ e => hk b o hL e⟩
theorem Inv.newL (I : Inv ρ hb nm env fm H σ h) : h.get? h.objs.size = none ∧ h.objs.size ≠ env.locals := by
  constructor
  · cases q : h.get? h.objs.size with
    | none => rfl
    | some o => exact absurd (Heap.lt_size q) (Nat.lt_irrefl _)
  · obtain ⟨m, hn, _⟩ := I.ns
    exact Nat.ne_of_gt hn.lt
theorem get_len {xs : List Addr} {D : Addr} (e : xs.length = H.length) : (xs ++ [D])[H.length]? = some D := by rw [← e]; simp
theorem Inv.list (I : Inv ρ hb nm env fm H σ h) {n : Nat} {xs : List V} (e : getL H n = some xs) : ∃ a vs c, σ[n]? = some a ∧ h.get? a = some (listOf (List.toArray vs) c) ∧ VRs ρ σ xs vs := by
  unfold getL at e
  split at e
  · rename_i ys q
    cases e
    obtain ⟨a, e1, vs, c, e2, e3⟩ := I.hr.at q
    exact ⟨a, vs, c, e1, e2, e3⟩
  · cases e
theorem getL_some {n : Nat} {xs : List V} (e : getL H n = some xs) : H[n]? = some (.list xs) := by
  unfold getL at e
  split at e
  · rename_i ys q; cases e; exact q
  · cases e
theorem isList_of {a : Addr} {vs : List Value} {c : Nat} (e : h.get? a = some (listOf (List.toArray vs) c)) : h.IsList a (List.toArray vs) := ⟨_, e, rfl, c, rfl⟩
end

theorem VR.refE {ρ : Nat → Int} {σ : List Addr} {n : Nat} {v : Value} (h : VR ρ σ (.ref n) v) : ∃ a, σ[n]? = some a ∧ v = .ref a := by cases h with | ref _ a e => exact ⟨a, e, rfl⟩
theorem VR.intE {ρ : Nat → Int} {σ : List Addr} {i : Int} {v : Value} (h : VR ρ σ (.int i) v) : ∃ t, v = .int i t := by cases h with | int _ t => exact ⟨t, rfl⟩
theorem VR.strE {ρ : Nat → Int} {σ : List Addr} {i : Str} {v : Value} (h : VR ρ σ (.str i) v) : ∃ t, v = .str i t := by cases h with | str _ t => exact ⟨t, rfl⟩
theorem VR.boolE {ρ : Nat → Int} {σ : List Addr} {i : Bool} {v : Value} (h : VR ρ σ (.bool i) v) : v = .bool i := by cases h with | bool _ => rfl
theorem VR.noneE {ρ : Nat → Int} {σ : List Addr} {v : Value} (h : VR ρ σ .none v) : v = .none := by cases h with | none => rfl
theorem VR.linE {ρ : Nat → Int} {σ : List Addr} {a b : Int} {j : Nat} {v : Value} (h : VR ρ σ (.lin a j b) v) : ∃ t, v = .int (a * ρ j + b) t := by cases h with | lin _ _ _ t => exact ⟨t, rfl⟩
theorem VR.quoE {ρ : Nat → Int} {σ : List Addr} {d : Int} {j : Nat} {v : Value} (h : VR ρ σ (.quo j d) v) : ∃ t, v = .int (Int.fdiv (ρ j) d) t := by cases h with | quo _ _ t => exact ⟨t, rfl⟩
theorem VR.invE {ρ : Nat → Int} {σ : List Addr} {d : Nat} {v : Value} (h : VR ρ σ (.inv d) v) : (1 ≤ d ∧ d ≤ 8) ∧ ∃ t, t ≠ 0 ∧ v = .float (invF d) t := by cases h with | inv _ t h ht => exact ⟨h, t, ht, rfl⟩
theorem VR.mulE {ρ : Nat → Int} {σ : List Addr} {n d : Nat} {v : Value} (h : VR ρ σ (.mul n d) v) : (1 ≤ d ∧ d ≤ 8) ∧ n ≤ 8 ∧ ∃ t, t ≠ 0 ∧ v = .float (mulF n d) t := by cases h with | mul _ _ t h h' ht => exact ⟨h, h', t, ht, rfl⟩

def opBack : Op → Operator
  | .add => .Add | .sub => .Sub | .mul => .Mult | .div => .Div | .fdiv => .FloorDiv | .mod => .Mod | .pow => .Pow

structure OrcOk (K : Orc) (ρ : Nat → Int) : Prop where
  r : ∀ c, K.r = some c → Int.fmod (ρ 0) 8 = c
  bits : ∀ (d : Int) (b : Bool), bitAt K.bits 1 d = some b → Int.fmod (Int.fdiv (ρ 1) d) 2 = if b then 1 else 0

theorem rep_len (xs : List V) : ∀ n, (rep xs n).length = xs.length * n
  | 0 => by simp [rep]
  | n + 1 => by simp [rep, rep_len xs n, Nat.mul_succ, Nat.add_comm]

section
variable {prog : Program} {w : World} {ρ : Nat → Int} {hb : Heap} {K : Orc} {nm : Nm} {env : Env} {fm : Fm} {H H' : List O} {σ : List Addr} {s : Shared} {A : Around} {E : Value → Shared → Prop} {n : Nat}
variable {u v y : V} {u' v' : Value} {Q : Value → Shared → Prop}

theorem Post.plain (k : Post ρ hb nm env fm σ s H y Q) (I : Inv ρ hb nm env fm H σ s.heap) {z : Value} (tk : Nat) (hz : VR ρ σ y z) : Q z { s with toks := tk } := k z s.heap tk σ I Step.refl hz

/-- a new own object by a rule with a ledger -/
theorem Post.newN {o : O} {ob : Obj} {D : Addr} {h' : Heap} {tk : Nat} {m : Str → Option Value} (k : Post ρ hb nm env fm σ s (H ++ [o]) (.ref H.length) Q) (I : Inv ρ hb nm env fm H σ s.heap)
    (hm : SlRs ρ σ m env.cells nm fm.sl) (F' : Fr {} env.locals h' m) (N' : News {} env.locals h' ((D, ob) :: fullN s.heap env.locals)) (hD : s.heap.get? D = none) (ho : ∀ (x : h'.get? D = some ob), OR ρ (σ ++ [D]) h' D o) :
    Q (.ref D) { s with heap := h', toks := tk } := by
  have hk := news_keep (h := s.heap) N' fun p hp => .tail _ hp
  have hd := N' (D, ob) (.head _)
  exact k (.ref D) h' tk (σ ++ [D]) (I.pushL F'.ns hm hk hD hd.2.1 (ho hd.1)) (Step.pushL hk hD) (.ref _ _ (get_len I.hr.len))

theorem S_bop2 (OK : OrcOk K ρ) (hA : OkA n A) (ht : 1 ≤ s.toks) {op : Operator} {o : Op} (ho : opOf op = some o) (I : Inv ρ hb nm env fm H σ s.heap) (hu : VR ρ σ u u') (hv : VR ρ σ v v') (h : bop2 K H o u v = some (y, H')) (k : Post ρ hb nm env fm σ s H' y Q) :
    wpAny (model prog w) A (binaryOp op u' v') Q E s := by
  have hop : op = opBack o := by
    cases op <;> simp [opOf] at ho <;> subst ho <;> rfl
  subst hop
  unfold bop2 at h
  split at h
  · -- add int int
    cases h
    obtain ⟨t, rfl⟩ := hu.intE; obtain ⟨t', rfl⟩ := hv.intE
    exact wpAny_add_int (k.plain I _ (.int _ _))
  · cases h
    obtain ⟨t, rfl⟩ := hu.linE; obtain ⟨t', rfl⟩ := hv.intE
    refine wpAny_add_int (k.plain I _ ?_)
    rename_i a j b c
    rw [Int.add_assoc]
    exact .lin a j (b + c) _
  · -- lists
    split at h
    · rename_i xs q1
      split at h
      · rename_i ys q2
        split at h
        · rename_i hz
          cases h
          obtain ⟨a, ea, rfl⟩ := hu.refE; obtain ⟨b, eb, rfl⟩ := hv.refE
          obtain ⟨a', vs, c, e1, e2, e3⟩ := I.list q1
          obtain ⟨b', us, d, f1, f2, f3⟩ := I.list q2
          rw [ea] at e1; cases e1
          rw [eb] at f1; cases f1
          obtain ⟨m, hn, hm⟩ := I.ns
          have hz' := Nat.le_of_ble_eq_true hz
          refine add_arrays (fr_any hn) (fullN_news _ _) (isList_of e2) (isList_of f2) (fun h' F' N' => ?_) (by rw [List.size_toArray, List.size_toArray, e3.length, f3.length, sizeLine_eq]; omega)
          exact k.newN I hm F' N' I.newL.1 fun x => ⟨vs ++ us, 0, by simpa using x, (e3.append f3).ext⟩
        · cases h
      · cases h
    · cases h
  · cases h
    obtain ⟨t, rfl⟩ := hu.intE; obtain ⟨t', rfl⟩ := hv.intE
    exact PyProof.Rows.sub_int (k.plain I _ (.int _ _))
  · split at h
    · rename_i hz
      cases h
      obtain ⟨t, rfl⟩ := hu.intE; obtain ⟨t', rfl⟩ := hv.intE
      simp only [Bool.and_eq_true, decide_eq_true_eq] at hz
      exact PyProof.Rows.mul_int (k.plain I _ (.int _ _)) (.of_left (intBits_le_64 (by omega) (by omega)))
    · cases h
  · split at h
    · rename_i hz
      cases h
      obtain ⟨t, rfl⟩ := hu.intE; obtain ⟨t', rfl⟩ := hv.linE
      simp only [Bool.and_eq_true, decide_eq_true_eq] at hz
      refine PyProof.Rows.mul_int (k.plain I _ ?_) (.of_left (intBits_le_64 (by omega) (by omega)))
      rename_i c a j b _
      obtain ⟨_, rfl⟩ := hz
      have := VR.lin (ρ := ρ) (σ := σ) (c * a) j 0 s.toks
      rw [Int.add_zero, ← Int.mul_assoc]
      rwa [Int.add_zero] at this
    · cases h
  · split at h
    · rename_i hz
      cases h
      obtain ⟨t, rfl⟩ := hu.intE; obtain ⟨hd, t', ht0, rfl⟩ := hv.invE
      have hz' := Nat.le_of_ble_eq_true hz
      rename_i n' d _
      refine PyProof.Rows.mul_if_fits (by show (Int.natAbs (Int.ofNat n')) < 2 ^ 1023; have : Int.natAbs (Int.ofNat n') = n' := rfl; rw [this]; exact Nat.lt_of_le_of_lt hz' (Nat.lt_of_lt_of_le (by decide : 8 < 2 ^ 4) (Nat.pow_le_pow_right (by decide) (by decide)))) (k.plain I _ ?_)
      exact .mul n' d _ hd hz' (Nat.ne_of_gt ht)
    · cases h
  · split at h
    · rename_i xs q1
      split at h
      · rename_i hz
        cases h
        obtain ⟨a, ea, rfl⟩ := hu.refE; obtain ⟨t', rfl⟩ := hv.intE
        obtain ⟨a', vs, c, e1, e2, e3⟩ := I.list q1
        rw [ea] at e1; cases e1
        obtain ⟨m, hn, hm⟩ := I.ns
        simp only [Bool.and_eq_true] at hz
        have hz1 := Nat.le_of_ble_eq_true hz.1
        have hz2 := Nat.le_of_ble_eq_true hz.2
        rename_i m' k' _ _
        refine KMa.mul (fr_any hn) (fullN_news _ _) (isList_of e2) (by show -(2 ^ 63 : Int) ≤ (k' : Int); omega) (by show (k' : Int) < 2 ^ 63; omega) (by rw [e3.length]; show xs.length * k' ≤ 256; exact Nat.le_trans (Nat.mul_le_mul hz2 hz1) (by decide)) rfl (fun D h' F' N' hlt => ?_)
        have hD : s.heap.get? D = none := by
          cases q : s.heap.get? D with
          | none => rfl
          | some ob =>
            by_cases hL : D = env.locals
            · exact absurd hL (N' (D, _) (.head _)).2.1
            · exact absurd (hlt _ (mem_fullN hL q)) (Nat.lt_irrefl _)
        exact k.newN I hm F' N' hD fun x => ⟨_, 0, x, (e3.rep k').ext⟩
      · cases h
    · cases h
  · split at h
    · rename_i xs q1
      split at h
      · rename_i hz
        cases h
        obtain ⟨a, ea, rfl⟩ := hv.refE; obtain ⟨t', rfl⟩ := hu.intE
        obtain ⟨a', vs, c, e1, e2, e3⟩ := I.list q1
        rw [ea] at e1; cases e1
        obtain ⟨m, hn, hm⟩ := I.ns
        simp only [Bool.and_eq_true] at hz
        have hz1 := Nat.le_of_ble_eq_true hz.1
        have hz2 := Nat.le_of_ble_eq_true hz.2
        rename_i k' m' _ _
        refine mul_list_r (fr_any hn) (fullN_news _ _) e2 (by show -(2 ^ 63 : Int) ≤ (k' : Int); omega) (by show (k' : Int) < 2 ^ 63; omega) (by rw [List.size_toArray, e3.length]; show xs.length * k' ≤ 2 ^ 24; exact Nat.le_trans (Nat.mul_le_mul hz2 hz1) (by decide)) (fun h' F' N' => ?_)
        refine k.newN I hm F' N' I.newL.1 fun x => ⟨_, 0, ?_, (e3.rep k').ext⟩
        rw [listMul_foldl_if] at x
        exact x
      · cases h
    · cases h
  · split at h
    · rename_i hz
      cases h
      obtain ⟨t, rfl⟩ := hu.intE; obtain ⟨t', rfl⟩ := hv.intE
      simp only [Bool.and_eq_true] at hz
      have hz1 := Nat.le_of_ble_eq_true hz.1
      have hz2 := Nat.le_of_ble_eq_true hz.2
      rename_i d _
      refine PySem.Flt.div_ii_fits hA.1 (by decide) (fun e => ?_) (fun _ _ => ?_)
      · exfalso
        have : (d : Int) = 0 := e
        omega
      · have e1 : Float64.ofFrac (decide ((Int.ofNat 1) < 0) != decide ((Int.ofNat d) < 0)) (Int.natAbs (Int.ofNat 1)) (Int.natAbs (Int.ofNat d)) = invF d := by
          have : decide ((Int.ofNat d) < 0) = false := decide_eq_false (by show ¬ ((d : Int) < 0); omega)
          rw [this]; rfl
        rw [e1]
        exact k.plain I _ (.inv d _ ⟨hz1, hz2⟩ (Nat.ne_of_gt ht))
    · cases h
  · split at h
    · rename_i hz
      cases h
      obtain ⟨t, rfl⟩ := hu.linE; obtain ⟨t', rfl⟩ := hv.intE
      simp only [Bool.and_eq_true, decide_eq_true_eq] at hz
      rename_i a j b d _
      obtain ⟨⟨⟨rfl, rfl⟩, hd⟩, hd'⟩ := hz
      rw [Int.one_mul, Int.add_zero]
      refine PyProof.Rows.floordiv_int (by omega) (k.plain I _ (.quo j d _)) (Or.inl (PyProof.noPylong_small (by omega)))
    · cases h
  · split at h
    · rename_i hz
      obtain ⟨t, rfl⟩ := hu.linE; obtain ⟨t', rfl⟩ := hv.intE
      simp only [Bool.and_eq_true, decide_eq_true_eq] at hz
      rename_i a j b d _
      obtain ⟨⟨⟨rfl, rfl⟩, rfl⟩, hj⟩ := hz
      have hj' := Nat.eq_of_beq_eq_true hj
      subst hj'
      rw [Int.one_mul, Int.add_zero]
      refine PyProof.Rows.mod_int' (by decide) ?_
      split at h
      · rename_i c q
        cases h
        rw [OK.r c q]
        exact k.plain I _ (.int _ _)
      · cases h
    · cases h
  · split at h
    · rename_i hz
      cases h
      obtain ⟨t, rfl⟩ := hu.intE; obtain ⟨t', rfl⟩ := hv.intE
      simp only [Bool.and_eq_true, decide_eq_true_eq] at hz
      refine PyProof.Rows.mod_int' (by omega) ?_
      exact k.plain I _ (.int _ _)
    · cases h
  · split at h
    · rename_i hz
      simp only [Bool.and_eq_true, decide_eq_true_eq] at hz
      obtain ⟨t, rfl⟩ := hu.quoE; obtain ⟨t', rfl⟩ := hv.intE
      rename_i j d e _
      obtain ⟨rfl, hj⟩ := hz
      have hj' := Nat.eq_of_beq_eq_true hj
      subst hj'
      refine PyProof.Rows.mod_int' (by decide) ?_
      split at h
      · rename_i q
        cases h
        rw [OK.bits d true q]
        exact k.plain I _ (.int _ _)
      · rename_i q
        cases h
        rw [OK.bits d false q]
        exact k.plain I _ (.int _ _)
      · cases h
    · cases h
  · split at h
    · rename_i hz
      cases h
      obtain ⟨t, rfl⟩ := hu.intE; obtain ⟨t', rfl⟩ := hv.intE
      simp only [Bool.and_eq_true, decide_eq_true_eq] at hz
      rename_i a k' _
      obtain ⟨rfl, hk⟩ := hz
      have hk' := Nat.le_of_ble_eq_true hk
      refine PyProof.Rows.pow_int (by show (0 : Int) ≤ (k' : Int); omega) (by
        have : (Builtin.Int.intBits 2 : Int) ≤ 64 := by have := intBits_le_64 (k := 2) (by decide) (by decide); omega
        show (Builtin.Int.intBits 2 : Int) * (k' : Int) ≤ 2 ^ 27
        have h1 : (Builtin.Int.intBits 2 : Int) * (k' : Int) ≤ 64 * 16 := Int.mul_le_mul this (by omega) (by omega) (by omega)
        omega) (k.plain I _ ?_)
      have e : ((2 : Int) ^ (Int.ofNat k').toNat) = ((2 ^ k' : Nat) : Int) := by
        show (2 : Int) ^ k' = _
        rw [Int.natCast_pow]; rfl
      rw [e]
      exact .int _ _
    · cases h
  · cases h
end
end Mine
end
section
open PySem PySem.Calls PyProof.Rows PySem.W PySem.SeqAt
namespace Mine
set_option maxRecDepth 10000
set_option autoImplicit false
set_option linter.unusedVariables false

theorem mul_refl : ∀ n ≤ 8, ∀ d ≤ 8, 1 ≤ d → (Float64.cmp (mulF n d) (mulF n d) == some Ordering.eq) = true := by decide +kernel

section
variable {A : Around} {s : Shared}
theorem RcAt.mulF {n d : Nat} (hn : n ≤ 8) (hd : d ≤ 8) (h1 : 1 ≤ d) (t u : Tok) : RcAt A s (.float (mulF n d) t) (.float (mulF n d) u) true := fun prog w E Q h => by
  show wpAny _ _ (compareOp .Eq _ _) Q E s
  refine AutoFloatOps.eq_0 ?_
  rw [mul_refl n hn d hd h1]; exact h
theorem RcNeAt.mulF {n d : Nat} (hn : n ≤ 8) (hd : d ≤ 8) (h1 : 1 ≤ d) (t u : Tok) : RcNeAt A s (.float (mulF n d) t) (.float (mulF n d) u) false := fun prog w E Q h => by
  show wpAny _ _ (compareOp .NotEq _ _) Q E s
  refine AutoFloatOps.ne_0 ?_
  have := mul_refl n hn d hd h1
  show Q (.bool (!(Float64.cmp (Mine.mulF n d) (Mine.mulF n d) == some Ordering.eq))) s
  rw [this]; exact h
theorem isSame_float {M : Model} {E : Value → Shared → Prop} {x : UInt64} {t u : Tok} {Q : Bool → Shared → Prop} (h1 : t ≠ 0) (h2 : u ≠ 0) (hb : NoneBooked s.heap) (hq : ∀ b, Q b s) : wpAny M A (isSame (.float x t) (.float x u)) Q E s := by
  show wpAny M A (isSame.created (x == x && !Float64.isNaN x) t u) Q E s
  unfold isSame.created
  refine wpAny_ite ?_
  split
  · rename_i h
    simp [h1, h2] at h
  refine wpAny_ite ?_
  split
  · exact wpAny_pure (hq _)
  refine wpAny_ite ?_
  split
  · exact wpAny_pure (hq _)
  refine wpAny_bind (wpAny_sharingNotTold_none hb ?_)
  first | rw [if_neg Bool.false_ne_true] | simp only [Bool.false_eq_true, if_false]
  refine wpAny_bind (wpAny_sharingNotTold_none hb ?_)
  first | rw [if_neg Bool.false_ne_true] | simp only [Bool.false_eq_true, if_false]
  exact wpAny_bind (wpAny_rule (wpAny_bind (wpAny_askSetting (wpAny_pure (hq _)))))
theorem EqAt.mulF {n d : Nat} (hn : n ≤ 8) (hd : d ≤ 8) (h1 : 1 ≤ d) (t u : Tok) (ht : t ≠ 0) (hu : u ≠ 0) (hb : NoneBooked s.heap) : EqAt A s (.float (mulF n d) t) (.float (mulF n d) u) true := fun prog w E Q hq => by
  by_cases htu : t = u
  · subst htu; exact EqAt.same _ prog w E Q hq
  · unfold eqBool
    refine wpAny_holding ?_
    refine wpAny_ite_split (fun hab => absurd (by have := eq_of_beq hab; injection this) htu) (fun _ => ?_)
    refine wpAny_bind (isSame_float ht hu hb fun b => ?_)
    refine wpAny_ite ?_
    split
    · exact wpAny_pure hq
    · exact wpAny_bind (RcAt.mulF hn hd h1 t u prog w E _ (wpAny_truthy_bool hq))
end

theorem int_same {A : Around} {s : Shared} {P : Prop} (i : Int) (t u : Tok) : EqAt A s (.int i t) (.int i u) true ∧ (P → RcAt A s (.int i t) (.int i u) true ∧ RcNeAt A s (.int i t) (.int i u) (!true)) := by
  have e1 := EqAt.int_int (A := A) (s := s) i t i u
  have e2 := RcAt.int_int (A := A) (s := s) i t i u
  have e3 := RcNeAt.int_int (A := A) (s := s) i t i u
  rw [beq_self_eq_true] at e1 e2 e3
  exact ⟨e1, fun _ => ⟨e2, e3⟩⟩

theorem all_succ (e : Nat → Bool) (n : Nat) : (List.range (n + 1)).all e = (e 0 && (List.range n).all fun j => e (j + 1)) := by
  rw [List.range_succ_eq_map, List.all_cons, List.all_map]; rfl

section
variable {ρ : Nat → Int} {H : List O} {σ : List Addr} {s : Shared}
theorem eq_both (hbk : NoneBooked s.heap) (hr : HR ρ σ H s.heap) (nd : σ.Nodup) : ∀ k,
    (∀ (A : Around) (a b : V) (r : Bool) (va vb : Value), A.units + k < cLine → eqV k H a b = some r → VR ρ σ a va → VR ρ σ b vb → EqAt A s va vb r ∧ (sameRef a b = false → RcAt A s va vb r ∧ RcNeAt A s va vb (!r))) ∧
    (∀ (A : Around) (xs ys : List V) (r : Bool) (vs us : List Value), A.units + k < cLine → eqL k H xs ys = some r → VRs ρ σ xs vs → VRs ρ σ ys us →
      ∃ e : Nat → Bool, (∀ j (h1 : j < vs.length) (h2 : j < us.length), EqAt A s vs[j] us[j] (e j)) ∧ (List.range xs.length).all e = r ∧ xs.length = ys.length) := by
  intro k
  induction k with
  | zero => exact ⟨fun _ _ _ _ _ _ _ h => by simp [eqV] at h, fun _ _ _ _ _ _ _ h => by simp [eqL] at h⟩
  | succ k ih =>
    constructor
    · intro A a b r va vb hu h ha hb
      have hu0 : A.units < cLine := by omega
      have hu1 : A.in1.units + k < cLine := by show A.units + 1 + k < cLine; omega
      cases a with
      | none =>
        cases b <;> simp [eqV] at h
        subst h
        rw [ha.noneE, hb.noneE]
        exact ⟨EqAt.same _, fun _ => ⟨RcAt.none_none, RcNeAt.none_none⟩⟩
      | bool x =>
        cases b with
        | bool y =>
          simp only [eqV, Option.some.injEq] at h
          subst h
          rw [ha.boolE, hb.boolE]
          have he : decide (x = y) = (x == y) := by cases x <;> cases y <;> rfl
          rw [he]
          exact ⟨EqAt.bool_bool _ _, fun _ => ⟨RcAt.bool_bool _ _, RcNeAt.bool_bool _ _⟩⟩
        | _ => simp [eqV] at h
      | opq => cases b <;> simp [eqV] at h
      | quo _ _ => cases b <;> simp [eqV] at h
      | inv _ => cases b <;> simp [eqV] at h
      | int x =>
        obtain ⟨t, rfl⟩ := ha.intE
        cases b with
        | int y =>
          simp only [eqV, Option.some.injEq] at h
          subst h
          obtain ⟨u, rfl⟩ := hb.intE
          exact ⟨EqAt.int_int _ _ _ _, fun _ => ⟨RcAt.int_int _ _ _ _, RcNeAt.int_int _ _ _ _⟩⟩
        | str y =>
          simp only [eqV, Option.some.injEq] at h
          subst h
          obtain ⟨u, rfl⟩ := hb.strE
          exact ⟨EqAt.int_str _ _ _ _, fun _ => ⟨RcAt.int_str _ _ _ _, RcNeAt.int_str _ _ _ _⟩⟩
        | _ => simp [eqV] at h
      | str x =>
        obtain ⟨t, rfl⟩ := ha.strE
        cases b with
        | int y =>
          simp only [eqV, Option.some.injEq] at h
          subst h
          obtain ⟨u, rfl⟩ := hb.intE
          exact ⟨EqAt.str_int _ _ _ _, fun _ => ⟨RcAt.str_int _ _ _ _, RcNeAt.str_int _ _ _ _⟩⟩
        | str y =>
          simp only [eqV, Option.some.injEq] at h
          subst h
          obtain ⟨u, rfl⟩ := hb.strE
          exact ⟨EqAt.str_str _ _ _ _, fun _ => ⟨RcAt.str_str _ _ _ _, RcNeAt.str_str _ _ _ _⟩⟩
        | _ => simp [eqV] at h
      | lin x i y =>
        cases b with
        | lin x' i' y' =>
          simp only [eqV] at h
          split at h
          · rename_i hz
            cases h
            simp only [Bool.and_eq_true, decide_eq_true_eq] at hz
            obtain ⟨⟨rfl, hj⟩, rfl⟩ := hz
            have := Nat.eq_of_beq_eq_true hj
            subst this
            obtain ⟨t, rfl⟩ := ha.linE; obtain ⟨u, rfl⟩ := hb.linE
            exact int_same _ _ _
          · cases h
        | _ => simp [eqV] at h
      | mul x y =>
        cases b with
        | mul x' y' =>
          simp only [eqV] at h
          split at h
          · rename_i hz
            cases h
            simp only [Bool.and_eq_true] at hz
            have e1 := Nat.eq_of_beq_eq_true hz.1
            have e2 := Nat.eq_of_beq_eq_true hz.2
            subst e1; subst e2
            obtain ⟨hd, hn, t, ht0, rfl⟩ := ha.mulE; obtain ⟨_, _, u, hu0', rfl⟩ := hb.mulE
            exact ⟨EqAt.mulF hn hd.2 hd.1 t u ht0 hu0' hbk, fun _ => ⟨RcAt.mulF hn hd.2 hd.1 t u, RcNeAt.mulF hn hd.2 hd.1 t u⟩⟩
          · cases h
        | _ => simp [eqV] at h
      | ref m =>
       cases b with
       | ref n =>
        simp only [eqV] at h
        obtain ⟨l, el, rfl⟩ := ha.refE; obtain ⟨l', el', rfl⟩ := hb.refE
        cases hmn : Nat.beq m n with
        | true =>
          rw [hmn] at h
          cases h
          have := Nat.eq_of_beq_eq_true hmn
          subst this
          rw [el] at el'; cases el'
          exact ⟨EqAt.same _, fun hs => by simp [sameRef] at hs⟩
        | false =>
          rw [hmn] at h
          have hne : l ≠ l' := fun q => by
            subst q
            have := nodup_get nd el el'
            subst this
            simp at hmn
          have fin : ∀ {r : Bool}, RcAt A s (.ref l) (.ref l') r → RcNeAt A s (.ref l) (.ref l') (!r) → EqAt A s (.ref l) (.ref l') r ∧ (sameRef (.ref m) (.ref n) = false → RcAt A s (.ref l) (.ref l') r ∧ RcNeAt A s (.ref l) (.ref l') (!r)) :=
            fun x y => ⟨EqAt.of_refs hne x, fun _ => ⟨x, y⟩⟩
          dsimp only at h
          split at h
          · rename_i xs q1
            split at h
            · rename_i ys q2
              obtain ⟨a', e1, vs, c, e2, e3⟩ := hr.at q1
              obtain ⟨b', f1, us, d, f2, f3⟩ := hr.at q2
              rw [el] at e1; cases e1
              rw [el'] at f1; cases f1
              split at h
              · rename_i hz
                have hz' := Nat.eq_of_beq_eq_true hz
                obtain ⟨e, g1, g2, g3⟩ := ih.2 A.in1 xs ys r vs us hu1 h e3 f3
                have hsz : (List.toArray vs).size = (List.toArray us).size := by rw [List.size_toArray, List.size_toArray, e3.length, f3.length, hz']
                have he : ∀ j (h1 : j < (List.toArray vs).size) (h2 : j < (List.toArray us).size), EqAt A.in1 s (List.toArray vs)[j] (List.toArray us)[j] (e j) := fun j h1 h2 => by
                  have := g1 j (by simpa using h1) (by simpa using h2)
                  simpa using this
                have hl : (List.range (List.toArray vs).size).all e = r := by rw [List.size_toArray, e3.length]; exact g2
                have x1 := RcAt.lists (isList_of e2) (isList_of f2) hsz hu0 he
                have x2 := RcNeAt.lists (isList_of e2) (isList_of f2) hsz hu0 he
                rw [hl] at x1 x2
                exact fin x1 x2
              · rename_i hz
                cases h
                have hz' : xs.length ≠ ys.length := fun q => by rw [q] at hz; simp at hz
                have hsz : ((List.toArray vs).size != (List.toArray us).size) = true := by
                  rw [List.size_toArray, List.size_toArray, e3.length, f3.length]
                  simpa using hz'
                exact fin (RcAt.lists_lengths (isList_of e2) (isList_of f2) hsz hu0) (RcNeAt.lists_lengths (isList_of e2) (isList_of f2) hsz hu0)
            · cases h
          · rename_i xs q1
            split at h
            · rename_i ys q2
              obtain ⟨a', e1, vs, c, e2, e3⟩ := hr.at q1
              obtain ⟨b', f1, us, d, f2, f3⟩ := hr.at q2
              rw [el] at e1; cases e1
              rw [el'] at f1; cases f1
              split at h
              · rename_i hz
                have hz' := Nat.eq_of_beq_eq_true hz
                obtain ⟨e, g1, g2, g3⟩ := ih.2 A.in1 xs ys r vs us hu1 h e3 f3
                have hsz : (List.toArray vs).size = (List.toArray us).size := by rw [List.size_toArray, List.size_toArray, e3.length, f3.length, hz']
                have he : ∀ j (h1 : j < (List.toArray vs).size) (h2 : j < (List.toArray us).size), EqAt A.in1 s (List.toArray vs)[j] (List.toArray us)[j] (e j) := fun j h1 h2 => by
                  have := g1 j (by simpa using h1) (by simpa using h2)
                  simpa using this
                have hl : ((List.range (min (List.toArray vs).size (List.toArray us).size)).all e && (List.toArray vs).size == (List.toArray us).size) = r := by
                  rw [← hsz, Nat.min_self, List.size_toArray, e3.length, g2]; simp
                have x1 := RcAt.tuples (⟨_, e2, rfl, _, rfl⟩ : s.heap.IsTuple l (List.toArray vs)) (⟨_, f2, rfl, _, rfl⟩ : s.heap.IsTuple l' (List.toArray us)) hu0 he
                have x2 := RcNeAt.tuples (⟨_, e2, rfl, _, rfl⟩ : s.heap.IsTuple l (List.toArray vs)) (⟨_, f2, rfl, _, rfl⟩ : s.heap.IsTuple l' (List.toArray us)) hu0 he
                rw [hl] at x1 x2
                exact fin x1 x2
              · cases h
            · cases h
          · cases h
       | _ => simp [eqV] at h
    · intro A xs ys r vs us hu h hx hy
      cases xs with
      | nil =>
       cases ys with
       | nil =>
        simp only [eqL, Option.some.injEq] at h
        subst h
        cases hx; cases hy
        exact ⟨fun _ => true, fun j h1 _ => absurd h1 (Nat.not_lt_zero _), by simp, rfl⟩
       | cons _ _ => simp [eqL] at h
      | cons x xs =>
       cases ys with
       | nil => simp [eqL] at h
       | cons y ys =>
        simp only [eqL] at h
        split at h
        · rename_i a qa
          split at h
          · rename_i b qb
            cases h
            cases hx with
            | cons hx1 hx2 =>
              cases hy with
              | cons hy1 hy2 =>
                have z1 := (ih.1 A _ _ a _ _ (by omega) qa hx1 hy1).1
                obtain ⟨e, g1, g2, g3⟩ := ih.2 A _ _ b _ _ (by omega) qb hx2 hy2
                refine ⟨fun j => match j with | 0 => a | j + 1 => e j, fun j h1 h2 => ?_, ?_, by simp [g3]⟩
                · cases j with
                  | zero => exact z1
                  | succ j => exact g1 j (Nat.lt_of_succ_lt_succ h1) (Nat.lt_of_succ_lt_succ h2)
                · rw [List.length_cons, all_succ]
                  show (a && (List.range xs.length).all fun j => e j) = (a && b)
                  rw [← g2]
          · cases h
        · cases h
end

section
variable {prog : Program} {w : World} {ρ : Nat → Int} {hb : Heap} {nm : Nm} {env : Env} {fm : Fm} {H : List O} {σ : List Addr} {s : Shared} {A : Around} {E : Value → Shared → Prop} {n : Nat}
variable {u v : V} {u' v' : Value} {Q : Value → Shared → Prop}
theorem S_cmp2 (hbk : NoneBooked hb) (hA : OkA n A) {op : CmpOp} {o : Cm} {c : Bool} (ho : cmOf op = some o) (I : Inv ρ hb nm env fm H σ s.heap) (hu : VR ρ σ u u') (hv : VR ρ σ v v') (h : cmp2 H o u v = some c)
    (k : ∀ tk, s.toks ≤ tk → Q (.bool c) { s with toks := tk }) : wpAny (model prog w) A (compareOp op u' v') Q E s := by
  have hbk' : NoneBooked s.heap := let ⟨mc, a, b⟩ := hbk; ⟨mc, a.keeps I.base, b⟩
  have kk : Q (.bool c) s := k s.toks (Nat.le_refl _)
  have both := eq_both hbk' I.hr I.nodup 40
  have hop : op = (match o with | .eq => CmpOp.Eq | .ne => .NotEq | .lt => .Lt | .le => .LtE | .gt => .Gt | .ge => .GtE) := by
    cases op <;> simp [cmOf] at ho <;> subst ho <;> rfl
  cases o with
  | eq =>
    dsimp only at hop; subst hop
    simp only [cmp2] at h
    cases hs : sameRef u v with
    | true => rw [hs] at h; cases h
    | false =>
      rw [hs] at h
      exact (((both.1 A u v c u' v' (hA.cline 40) h hu hv).2 hs).1) prog w E Q kk
  | ne =>
    dsimp only at hop; subst hop
    simp only [cmp2] at h
    cases hs : sameRef u v with
    | true => rw [hs] at h; cases h
    | false =>
      rw [hs] at h
      dsimp only at h
      split at h
      · rename_i r q
        cases h
        exact (((both.1 A u v r u' v' (hA.cline 40) q hu hv).2 hs).2) prog w E Q kk
      · cases h
  | lt =>
    dsimp only at hop; subst hop
    cases u <;> cases v <;> simp [cmp2] at h
    subst h
    obtain ⟨t, rfl⟩ := hu.intE; obtain ⟨t', rfl⟩ := hv.intE
    exact wpAny_lt_int kk
  | le =>
    dsimp only at hop; subst hop
    cases u <;> cases v <;> simp [cmp2] at h
    subst h
    obtain ⟨t, rfl⟩ := hu.intE; obtain ⟨t', rfl⟩ := hv.intE
    exact PyProof.Rows.le_int kk
  | gt =>
    dsimp only at hop; subst hop
    cases u <;> cases v <;> simp [cmp2] at h
    subst h
    obtain ⟨t, rfl⟩ := hu.intE; obtain ⟨t', rfl⟩ := hv.intE
    exact PyProof.Rows.gt_int kk
  | ge =>
    dsimp only at hop; subst hop
    cases u <;> cases v <;> simp [cmp2] at h
    subst h
    obtain ⟨t, rfl⟩ := hu.intE; obtain ⟨t', rfl⟩ := hv.intE
    exact PyProof.Rows.ge_int kk
end
end Mine
end
section
open PySem PySem.Calls PyProof.Rows PySem.W PySem.SeqAt
namespace Mine
set_option maxRecDepth 10000
set_option autoImplicit false
set_option linter.unusedVariables false

section
variable {prog : Program} {w : World} {ρ : Nat → Int} {hb : Heap} {K : Orc} {P : List FnD} {r : Rec} {n : Nat} {nm : Nm} {env : Env} {fm : Fm} {H H' : List O} {σ : List Addr} {s : Shared} {A : Around} {E : Value → Shared → Prop}
variable {Q : Value → Shared → Prop} {v : V}

theorem Post.of {x : V} (k : Post ρ hb nm env fm σ s H' x Q) : Post ρ hb nm env fm σ s H' x (PT Q) := fun v' h' tk σ' I' st hv _ => k v' h' tk σ' I' st hv
theorem PostB.of {x : Bool} {Q : Bool → Shared → Prop} (k : PostB ρ hb nm env fm σ s H' x Q) : PostB ρ hb nm env fm σ s H' x (PT Q) := fun h' tk σ' I' st _ => k h' tk σ' I' st
theorem PostS.of {fm' : Fm} {o : R} {Q : Flow → Shared → Prop} (k : PostS ρ hb nm env fm σ s H' fm' o Q) : PostS ρ hb nm env fm σ s H' fm' o (PT Q) := fun f h' tk σ' e I' st hr _ => k f h' tk σ' e I' st hr

theorem S_cst {e : PySem.Expr} {c : V} (ce : CE nm e (.cst c)) (I : Inv ρ hb nm env fm H σ s.heap) (h : evF K P r fm H (.cst c) = some (v, H')) (k : Post ρ hb nm env fm σ s H' v Q) : wpAny (model prog w) A (eval e env) Q E s := by
  simp only [evF, Option.some.injEq, Prod.mk.injEq] at h
  obtain ⟨rfl, rfl⟩ := h
  cases ce with
  | int i k' p => exact wpAny_Constant_int (k.plain I _ (.int _ _))
  | str x k' p => exact Constant_str (k.plain I _ (.str _ _))
  | bool b k' p => exact Constant_bool (k.plain I s.toks (.bool _))
  | none k' p => exact Constant_none (k.plain I s.toks .none)

theorem Inv.locV {n : Str} {i : Nat} (I : Inv ρ hb nm env fm H σ s.heap) (h1 : nm[i]? = some (n, .local)) (h2 : nm.lookup n = some .local) (h : fm.sl[i]? = some (.loc (some v))) {Q : Value → Shared → Prop} (k : ∀ v', VR ρ σ v v' → Q v' s) :
    wpAny (model prog w) A (loadName env n) Q E s := by
  obtain ⟨m, hn, hm⟩ := I.ns
  have hs : VO ρ σ (some v) (m n) := hm.get h1 h
  cases hv : m n with
  | none => rw [hv] at hs; exact hs.elim
  | some v' =>
    rw [hv] at hs
    exact wpAny_loadName_local I.kind (by show env.scope.names.lookup n = _; rw [I.names]; exact h2) hn hv (k v' hs)
theorem Inv.celV {n : Str} {i c : Nat} {kd : NameKind} (hkd : kd = .cell ∨ kd = .free) (hcd : kd = .free → (n == ("__classdict__" : Str)) = false) (I : Inv ρ hb nm env fm H σ s.heap) (h1 : nm[i]? = some (n, kd)) (h2 : nm.lookup n = some kd) (h : fm.sl[i]? = some (.cel c)) (h3 : H[c]? = some (.cell (some v)))
    {Q : Value → Shared → Prop} (k : ∀ v', VR ρ σ v v' → Q v' s) : wpAny (model prog w) A (loadName env n) Q E s := by
  obtain ⟨m, hn, hm⟩ := I.ns
  have hs := hm.get h1 h
  have ⟨a, e1, e2⟩ : ∃ a, σ[c]? = some a ∧ env.cells.lookup n = some a := by
    rcases hkd with rfl | rfl <;> exact hs
  obtain ⟨a', f1, v', hc, hv⟩ := I.hr.at h3
  rw [e1] at f1; cases f1
  cases v' with
  | none => exact hv.elim
  | some v' =>
    have hk : env.kindOf n = some kd := by show env.scope.names.lookup n = _; rw [I.names]; exact h2
    rcases hkd with rfl | rfl
    · exact wpAny_loadName_cell I.kind hk e2 hc (k v' hv)
    · exact wpAny_loadName_free I.kind hk e2 hc (k v' hv) (hcd rfl)

theorem S_loc {e : PySem.Expr} {i : Nat} (ce : CE nm e (.loc i)) (I : Inv ρ hb nm env fm H σ s.heap) (h : evF K P r fm H (.loc i) = some (v, H')) (k : Post ρ hb nm env fm σ s H' v Q) : wpAny (model prog w) A (eval e env) Q E s := by
  cases ce with
  | loc n p _ h1 h2 h3 =>
    simp only [evF] at h
    split at h
    · rename_i v' q
      cases h
      exact wpAny_Name (I.locV h1 h2 q fun v' hv => k v' s.heap s.toks σ I Step.refl hv) h3
    · cases h
theorem S_cel {e : PySem.Expr} {i : Nat} (ce : CE nm e (.cel i)) (I : Inv ρ hb nm env fm H σ s.heap) (h : evF K P r fm H (.cel i) = some (v, H')) (k : Post ρ hb nm env fm σ s H' v Q) : wpAny (model prog w) A (eval e env) Q E s := by
  simp only [evF] at h
  split at h
  · rename_i c q
    split at h
    · rename_i v' q2
      cases h
      cases ce with
      | cel n p _ h1 h2 h3 => exact wpAny_Name (I.celV (.inl rfl) (fun z => nomatch z) h1 h2 q q2 fun v' hv => k v' s.heap s.toks σ I Step.refl hv) h3
      | fre n p _ h1 h2 h3 h4 => exact wpAny_Name (I.celV (.inr rfl) (fun _ => h4) h1 h2 q q2 fun v' hv => k v' s.heap s.toks σ I Step.refl hv) h3
    · cases h
  · cases h

theorem S_bin (OK : OrcOk K ρ) (IH : Sound prog w ρ hb r n) (hA : OkA n A) (ht : 1 ≤ s.toks) {e : PySem.Expr} {o : Op} {x y : X} (ce : CE nm e (.bin o x y)) (I : Inv ρ hb nm env fm H σ s.heap) (h : evF K P r fm H (.bin o x y) = some (v, H')) (k : Post ρ hb nm env fm σ s H' v Q) :
    wpAny (model prog w) A (eval e env) Q E s := by
  cases ce with
  | bin ho c1 c2 =>
    simp only [evF] at h
    split at h
    · rename_i a H1 q1
      split at h
      · rename_i b H2 q2
        refine wpAny_BinOp (IH.ev hA ht c1 I q1 fun a' h1 t1 σ1 I1 st1 ha ht1 => ?_)
        refine IH.ev hA ht1 c2 I1 q2 fun b' h2 t2 σ2 I2 st2 hb' ht2 => ?_
        have ha' : VR ρ σ2 a a' := by obtain ⟨τ, rfl, _⟩ := st2.ext; exact ha.ext
        exact S_bop2 (s := { s with heap := h2, toks := t2 }) OK hA ht2 ho I2 ha' hb' h (Post.on (s := s) k I2 (Step.trans I1 st1 st2))
      · cases h
    · cases h

theorem S_cmp (hbk : NoneBooked hb) (IH : Sound prog w ρ hb r n) (hA : OkA n A) (ht : 1 ≤ s.toks) {e : PySem.Expr} {o : Cm} {x y : X} (ce : CE nm e (.cmp o x y)) (I : Inv ρ hb nm env fm H σ s.heap) (h : evF K P r fm H (.cmp o x y) = some (v, H')) (k : Post ρ hb nm env fm σ s H' v Q) :
    wpAny (model prog w) A (eval e env) Q E s := by
  cases ce with
  | cmp ho hm c1 c2 =>
    simp only [evF] at h
    split at h
    · rename_i a H1 q1
      split at h
      · rename_i b H2 q2
        split at h
        · rename_i c q3
          cases h
          refine wpAny_Compare1 (IH.ev hA ht c1 I q1 fun a' h1 t1 σ1 I1 st1 ha ht1 => ?_) hm
          refine IH.ev hA ht1 c2 I1 q2 fun b' h2 t2 σ2 I2 st2 hb' ht2 => ?_
          have ha' : VR ρ σ2 a a' := by obtain ⟨τ, rfl, _⟩ := st2.ext; exact ha.ext
          exact S_cmp2 (s := { s with heap := h2, toks := t2 }) hbk hA ho I2 ha' hb' q3 fun tk _ => k (.bool c) h2 tk σ2 I2 (Step.trans I1 st1 st2) (.bool c)
        · cases h
      · cases h
    · cases h
theorem T_cmp (hbk : NoneBooked hb) (IH : Sound prog w ρ hb r n) (hA : OkA n A) (ht : 1 ≤ s.toks) {Q : Bool → Shared → Prop} {b : Bool} {e : PySem.Expr} {o : Cm} {x y : X} (ce : CE nm e (.cmp o x y)) (I : Inv ρ hb nm env fm H σ s.heap) (h : tsF r fm H (.cmp o x y) = some (b, H')) (k : PostB ρ hb nm env fm σ s H' b Q) :
    wpAny (model prog w) A (isTrue e env (eval e env)) Q E s := by
  cases ce with
  | cmp ho hm c1 c2 =>
    simp only [tsF] at h
    split at h
    · rename_i a H1 q1
      split at h
      · rename_i b H2 q2
        split at h
        · rename_i c q3
          cases h
          refine wpAny_isTrue_Compare1 (IH.ev hA ht c1 I q1 fun a' h1 t1 σ1 I1 st1 ha ht1 => ?_) hm
          refine IH.ev hA ht1 c2 I1 q2 fun b' h2 t2 σ2 I2 st2 hb' ht2 => ?_
          have ha' : VR ρ σ2 a a' := by obtain ⟨τ, rfl, _⟩ := st2.ext; exact ha.ext
          exact S_cmp2 (s := { s with heap := h2, toks := t2 }) hbk hA ho I2 ha' hb' q3 fun tk _ => wpAny_truthy_bool (k h2 tk σ2 I2 (Step.trans I1 st1 st2))
        · cases h
      · cases h
    · cases h

theorem S_neg (IH : Sound prog w ρ hb r n) (hA : OkA n A) (ht : 1 ≤ s.toks) {e : PySem.Expr} {x : X} (ce : CE nm e (.neg x)) (I : Inv ρ hb nm env fm H σ s.heap) (h : evF K P r fm H (.neg x) = some (v, H')) (k : Post ρ hb nm env fm σ s H' v Q) :
    wpAny (model prog w) A (eval e env) Q E s := by
  cases ce with
  | neg c1 =>
    simp only [evF] at h
    split at h
    · rename_i a H1 q1
      cases h
      refine UnaryOp_ (IH.ev hA ht c1 I q1 fun a' h1 t1 σ1 I1 st1 ha ht1 => ?_)
      obtain ⟨t, rfl⟩ := ha.intE
      exact PyProof.Rows.neg_int (k _ h1 _ σ1 I1 st1 (.int _ _))
    · cases h

theorem S_ite (IH : Sound prog w ρ hb r n) (hA : OkA n A) (ht : 1 ≤ s.toks) {e : PySem.Expr} {t x y : X} (ce : CE nm e (.ite t x y)) (I : Inv ρ hb nm env fm H σ s.heap) (h : evF K P r fm H (.ite t x y) = some (v, H')) (k : Post ρ hb nm env fm σ s H' v Q) :
    wpAny (model prog w) A (eval e env) Q E s := by
  cases ce with
  | ite c1 c2 c3 =>
    simp only [evF] at h
    split at h
    · rename_i H1 q1
      refine IfExp_ (IH.ts hA ht c1 I q1 fun h1 t1 σ1 I1 st1 ht1 => ?_)
      rw [if_pos rfl]
      exact IH.ev (s := { s with heap := h1, toks := t1 }) hA ht1 c2 I1 h (Post.of (Post.on (s := s) k I1 st1))
    · rename_i H1 q1
      refine IfExp_ (IH.ts hA ht c1 I q1 fun h1 t1 σ1 I1 st1 ht1 => ?_)
      rw [if_neg Bool.false_ne_true]
      exact IH.ev (s := { s with heap := h1, toks := t1 }) hA ht1 c3 I1 h (Post.of (Post.on (s := s) k I1 st1))
    · cases h

theorem S_tru {b : Bool} {v' : Value} {Q : Bool → Shared → Prop} (I : Inv ρ hb nm env fm H σ s.heap) (hv : VR ρ σ v v') (h : tru H v = some b) (k : ∀ tk, s.toks ≤ tk → Q b { s with toks := tk }) :
    wpAny (model prog w) A (truthy v') Q E s := by
  cases v <;> simp only [tru] at h <;> try cases h
  · cases hv with | bool b => exact wpAny_truthy_bool (k s.toks (Nat.le_refl _))
  · rename_i n
    split at h
    · rename_i xs q
      split at h
      · rename_i hz
        cases h
        obtain ⟨a, ea, rfl⟩ := hv.refE
        obtain ⟨a', vs, c, e1, e2, e3⟩ := I.list q
        rw [ea] at e1; cases e1
        have hz := Nat.le_of_ble_eq_true hz
        refine wpAny_truthy_list (isList_of e2) (by rw [List.size_toArray, e3.length]; omega) ?_
        have : (!(List.toArray vs).isEmpty) = !xs.isEmpty := by
          have := e3.length
          cases xs <;> cases vs <;> simp at this ⊢
        rw [this]
        exact k _ (by omega)
      · cases h
    · cases h

theorem allT_sound (IH : Sound prog w ρ hb r n) (hA : OkA n A) {op : BoolOp} {p : Pos} {whole : Sem Value} {l : List PySem.Expr} {xs : List X} (c : CEs nm l xs) : ∀ {H : List O} {σ : List Addr} {s : Shared} {b : Bool} {H' : List O} {Q : Bool → Shared → Prop},
    1 ≤ s.toks → Inv ρ hb nm env fm H σ s.heap → allT r fm (bopB op) H xs = some (b, H') → PostB ρ hb nm env fm σ s H' b Q → wpAny (model prog w) A (isTrue (.BoolOp op l p) env whole) Q E s := by
  induction l generalizing xs with
  | nil =>
    intro H σ s b H' Q ht I h k
    cases c
    cases op with
    | And =>
      simp only [allT, bopB, Option.some.injEq, Prod.mk.injEq] at h
      obtain ⟨rfl, rfl⟩ := h
      exact isTrue_and_nil (k s.heap s.toks σ I Step.refl)
    | Or =>
      simp only [allT, bopB, Option.some.injEq, Prod.mk.injEq] at h
      obtain ⟨rfl, rfl⟩ := h
      exact isTrue_or_nil (k s.heap s.toks σ I Step.refl)
  | cons e es ih =>
    intro H σ s b H' Q ht I h k
    cases c with
    | cons h1 h2 h3 =>
      simp only [allT] at h
      split at h
      · rename_i b1 H1 q1
        cases op with
        | And =>
          refine isTrue_and (IH.ts hA ht h2 I q1 fun h1 t1 σ1 I1 st1 ht1 => ?_)
          cases b1 with
          | false =>
            simp only [bopB, Option.some.injEq, Prod.mk.injEq] at h
            obtain ⟨rfl, rfl⟩ := h
            rw [if_neg Bool.false_ne_true]
            exact k h1 t1 σ1 I1 st1
          | true =>
            simp only [bopB] at h
            rw [if_pos rfl]
            exact ih (s := { s with heap := h1, toks := t1 }) h3 ht1 I1 h (PostB.on (s := s) k I1 st1)
        | Or =>
          refine isTrue_or (IH.ts hA ht h2 I q1 fun h1 t1 σ1 I1 st1 ht1 => ?_)
          cases b1 with
          | true =>
            simp only [bopB, Option.some.injEq, Prod.mk.injEq] at h
            obtain ⟨rfl, rfl⟩ := h
            rw [if_pos rfl]
            exact k h1 t1 σ1 I1 st1
          | false =>
            simp only [bopB] at h
            rw [if_neg Bool.false_ne_true]
            exact ih (s := { s with heap := h1, toks := t1 }) h3 ht1 I1 h (PostB.on (s := s) k I1 st1)
      · cases h

theorem boolV_sound (IH : Sound prog w ρ hb r n) (hA : OkA n A) {op : BoolOp} {p : Pos} {l : List PySem.Expr} {xs : List X} (c : CEs nm l xs) : ∀ {H : List O} {σ : List Addr} {s : Shared} {v : V} {H' : List O} {Q : Value → Shared → Prop},
    1 ≤ s.toks → Inv ρ hb nm env fm H σ s.heap → boolV r fm (bopB op) H xs = some (v, H') → Post ρ hb nm env fm σ s H' v Q → wpAny (model prog w) A (eval (.BoolOp op l p) env) Q E s := by
  induction l generalizing xs with
  | nil =>
    intro H σ s b H' Q ht I h k
    cases c
    simp [boolV] at h
  | cons e es ih =>
    intro H σ s v H' Q ht I h k
    cases c with
    | @cons _ _ x _ xs h1 h2 h3 =>
      cases es with
      | nil =>
        cases h3
        simp only [boolV] at h
        exact BoolOp_one (IH.ev hA ht h2 I h (Post.of k))
      | cons e' es' =>
        cases h3 with
        | @cons _ _ y _ ys g1 g2 g3 =>
          simp only [boolV] at h
          split at h
          · rename_i u H1 q1
            split at h
            · rename_i b q2
              cases op with
              | And =>
                refine BoolOp_and (IH.ev hA ht h2 I q1 fun u' h1 t1 σ1 I1 st1 hu ht1 => ?_)
                refine S_tru (s := { s with heap := h1, toks := t1 }) I1 hu q2 fun tk htk => ?_
                cases b with
                | false =>
                  simp only [bopB, Option.some.injEq, Prod.mk.injEq] at h
                  obtain ⟨rfl, rfl⟩ := h
                  rw [if_neg Bool.false_ne_true]
                  exact k u' h1 tk σ1 I1 st1 hu
                | true =>
                  simp only [bopB] at h
                  rw [if_pos rfl]
                  exact ih (s := { s with heap := h1, toks := tk }) (.cons g1 g2 g3) (Nat.le_trans ht1 htk) I1 h (Post.on (s := s) k I1 st1)
              | Or =>
                refine BoolOp_or (IH.ev hA ht h2 I q1 fun u' h1 t1 σ1 I1 st1 hu ht1 => ?_)
                refine S_tru (s := { s with heap := h1, toks := t1 }) I1 hu q2 fun tk htk => ?_
                cases b with
                | true =>
                  simp only [bopB, Option.some.injEq, Prod.mk.injEq] at h
                  obtain ⟨rfl, rfl⟩ := h
                  rw [if_pos rfl]
                  exact k u' h1 tk σ1 I1 st1 hu
                | false =>
                  simp only [bopB] at h
                  rw [if_neg Bool.false_ne_true]
                  exact ih (s := { s with heap := h1, toks := tk }) (.cons g1 g2 g3) (Nat.le_trans ht1 htk) I1 h (Post.on (s := s) k I1 st1)
            · cases h
          · cases h

theorem T_plain (IH : Sound prog w ρ hb r n) (hA : OkA n A) (ht : 1 ≤ s.toks) {Q : Bool → Shared → Prop} {b : Bool} {e : PySem.Expr} {x : X} (he : ∀ whole, isTrue e env whole = (do let v ← whole; standAt e.pos; holding [v] (truthy v)))
    (ce : CE nm e x) (I : Inv ρ hb nm env fm H σ s.heap) (h : plT r fm H x = some (b, H')) (k : PostB ρ hb nm env fm σ s H' b Q) : wpAny (model prog w) A (isTrue e env (eval e env)) Q E s := by
  unfold plT at h
  split at h
  · rename_i u H1 q1
    split at h
    · rename_i b q2
      cases h
      refine isTrue_plain (IH.ev hA ht ce I q1 fun u' h1 t1 σ1 I1 st1 hu ht1 => ?_) (he _)
      exact S_tru (s := { s with heap := h1, toks := t1 }) I1 hu q2 fun tk _ => k h1 tk σ1 I1 st1
    · cases h
  · cases h

theorem T_all (hbk : NoneBooked hb) (IH : Sound prog w ρ hb r n) (hA : OkA n A) (ht : 1 ≤ s.toks) {Q : Bool → Shared → Prop} {b : Bool} {e : PySem.Expr} {x : X}
    (ce : CE nm e x) (I : Inv ρ hb nm env fm H σ s.heap) (h : tsF r fm H x = some (b, H')) (k : PostB ρ hb nm env fm σ s H' b Q) : wpAny (model prog w) A (isTrue e env (eval e env)) Q E s := by
  cases x with
  | inv a =>
    cases ce with
    | inv c1 =>
      simp only [tsF] at h
      split at h
      · rename_i b1 H1 q1
        cases h
        exact isTrue_not (IH.ts hA ht c1 I q1 fun h1 t1 σ1 I1 st1 _ => k h1 t1 σ1 I1 st1)
      · cases h
  | bop isAnd l =>
    cases ce with
    | bop c1 =>
      simp only [tsF] at h
      exact allT_sound IH hA c1 ht I h k
  | cmp o a b => exact T_cmp hbk IH hA ht ce I h k
  | loc i =>
    have ce' := ce
    cases ce' with
    | loc _ _ _ _ _ _ => exact T_plain IH hA ht (fun _ => rfl) ce I h k
  | isi T a =>
    have ce' := ce
    cases ce' with
    | isi _ _ _ _ _ _ _ => exact T_plain IH hA ht (fun _ => rfl) ce I h k
  | _ => simp [tsF] at h
end
end Mine
end
section
open PySem PySem.Calls PyProof.Rows PySem.W PySem.SeqAt
namespace Mine
set_option maxRecDepth 10000
set_option autoImplicit false
set_option linter.unusedVariables false

theorem idxI_spec {n : Nat} {i : Int} {j : Nat} (h : idxI n i = some j) : seqIndex? i n = some j ∧ -(2 ^ 63) ≤ i ∧ i < 2 ^ 63 ∧ j < n ∧ ((0 ≤ i ∧ j = i.toNat) ∨ (i = -1 ∧ j = n - 1 ∧ n ≤ 1000)) := by
  unfold idxI at h
  split at h
  · rename_i q
    cases h
    simp only [Bool.and_eq_true, decide_eq_true_eq] at q
    obtain ⟨⟨q1, q2⟩, q3⟩ := q
    have q3' : i.toNat < n := Nat.le_of_ble_eq_true q3
    refine ⟨?_, by omega, by omega, q3', .inl ⟨q1, rfl⟩⟩
    unfold seqIndex?
    obtain ⟨k, rfl⟩ := Int.eq_ofNat_of_zero_le q1
    simp at q3' ⊢
    omega
  · split at h
    · rename_i q
      cases h
      simp only [Bool.and_eq_true, decide_eq_true_eq] at q
      obtain ⟨⟨rfl, q2⟩, q3⟩ := q
      have q2' : 0 < n := Nat.le_of_ble_eq_true q2
      have q3' : n ≤ 1000 := Nat.le_of_ble_eq_true q3
      refine ⟨?_, by omega, by omega, by omega, .inr ⟨rfl, rfl, q3'⟩⟩
      unfold seqIndex?
      simp
      omega
    · cases h

section
variable {prog : Program} {w : World} {ρ : Nat → Int} {hb : Heap} {mg mb : Str → Option Value} {K : Orc} {P : List FnD} {r : Rec} {n : Nat} {nm : Nm} {env : Env} {fm : Fm} {H H' : List O} {σ : List Addr} {s : Shared} {A : Around} {E : Value → Shared → Prop}
variable {Q : Value → Shared → Prop} {v : V}

theorem subscripted_plain {slice : PySem.Expr} (h : isSliceE slice = false) (o i : Value) : subscripted slice false o i = operate [o, i] (getItem o i) := by
  cases slice <;> first | rfl | (simp [isSliceE] at h)

theorem seqOf_ref {c : Nat} {xs : List V} (h : seqOf H (.ref c) = some xs) : H[c]? = some (.list xs) ∨ H[c]? = some (.tup xs) := by
  simp only [seqOf] at h
  split at h
  · rename_i ys q; cases h; exact .inl q
  · rename_i ys q; cases h; exact .inr q
  · cases h

theorem S_subV {u y : V} {o' u' : Value} (I : Inv ρ hb nm env fm H σ s.heap) (ho : VR ρ σ v o') (hu : VR ρ σ u u') (h : subV H v u = some y) (k : ∀ y' tk, VR ρ σ y y' → Q y' { s with toks := tk }) :
    (∃ T id, s.TypeIs o' T ∧ typeLookup (.type T) "__getitem__" = pure (some (.builtin id))) ∧ wpAny (model prog w) A (getItem o' u') Q E s := by
  unfold subV at h
  split at h
  · rename_i c i
    split at h
    · rename_i xs q
      split at h
      · rename_i j qi
        obtain ⟨a, ea, rfl⟩ := ho.refE
        obtain ⟨t, rfl⟩ := hu.intE
        obtain ⟨g1, g2, g3, g4, g5⟩ := idxI_spec qi
        rcases seqOf_ref q with q | q
        · obtain ⟨a', e1, vs, c', e2, e3⟩ := I.hr.at q
          rw [ea] at e1; cases e1
          obtain ⟨y', hy, hv⟩ := e3.get h
          refine ⟨⟨"list", _, (isList_of e2).typeIs, slot_list_getitem.lookup⟩, ?_⟩
          rcases g5 with ⟨g5, rfl⟩ | ⟨rfl, rfl, g6⟩
          · exact wpAny_getItem_list (isList_of e2) g5 g3 (by simpa using hy) (k y' s.toks hv)
          · have hl := e3.length
            exact wpAny_getItem_list_neg (isList_of e2) (by decide) (by simp; omega) g2 (by
              have : ((-1 : Int) + (List.toArray vs).size).toNat = xs.length - 1 := by simp [hl]; omega
              rw [this]; simpa using hy) (k y' s.toks hv)
        · obtain ⟨a', e1, vs, c', e2, e3⟩ := I.hr.at q
          rw [ea] at e1; cases e1
          obtain ⟨y', hy, hv⟩ := e3.get h
          have ht : IsTup s.heap a vs.toArray := ⟨_, e2, rfl, _, rfl⟩
          refine ⟨⟨"tuple", _, ht.typeIs, slot_tuple_getitem.lookup⟩, ?_⟩
          exact PyProof.Rows.getItem_tuple ht g2 g3 (by rw [List.size_toArray, e3.length]; exact g1) (by simpa using hy) (k y' s.toks hv)
      · cases h
    · cases h
  · rename_i x i
    split at h
    · rename_i j qi
      split at h
      · rename_i c q
        cases h
        obtain ⟨t, rfl⟩ := ho.strE
        obtain ⟨t', rfl⟩ := hu.intE
        obtain ⟨g1, g2, g3, g4, g5⟩ := idxI_spec qi
        refine ⟨⟨"str", _, typeIs_str s x t, F.slot_str_getitem.lookup⟩, ?_⟩
        refine P.getItem_str (c := c) ?_ ?_ (k _ _ (.str _ _))
        · simp only [Bool.or_eq_false_iff, decide_eq_false_iff_not]
          omega
        · have : x.length = x.cps.toList.length := by simp [Str.length]
          rw [this, g1]
          simpa using q
      · cases h
    · cases h
  · cases h
end
end Mine
end
section
open PySem PySem.Calls PyProof.Rows PySem.W PySem.SeqAt
namespace Mine
set_option maxRecDepth 10000
set_option autoImplicit false
set_option linter.unusedVariables false

section
variable {prog : Program} {w : World} {ρ : Nat → Int} {hb : Heap} {mg mb : Str → Option Value} {K : Orc} {P : List FnD} {r : Rec} {n : Nat} {nm : Nm} {env : Env} {fm : Fm} {H H' : List O} {σ : List Addr} {s : Shared} {A : Around} {E : Value → Shared → Prop}
variable {Q : Value → Shared → Prop} {v : V}

theorem S_sub (IH : Sound prog w ρ hb r n) (hA : OkA n A) (ht : 1 ≤ s.toks) {e : PySem.Expr} {x y : X} (ce : CE nm e (.sub x y)) (I : Inv ρ hb nm env fm H σ s.heap) (h : evF K P r fm H (.sub x y) = some (v, H')) (k : Post ρ hb nm env fm σ s H' v Q) :
    wpAny (model prog w) A (eval e env) Q E s := by
  cases ce with
  | sub hs c1 c2 =>
    simp only [evF] at h
    split at h
    · rename_i a H1 q1
      split at h
      · rename_i b H2 q2
        split at h
        · rename_i c q3
          cases h
          refine PyProof.Rows.Subscript_ (IH.ev hA ht c1 I q1 fun a' h1 t1 σ1 I1 st1 ha ht1 => ?_)
          refine IH.ev hA ht1 c2 I1 q2 fun b' h2 t2 σ2 I2 st2 hb' ht2 => ?_
          have ha' : VR ρ σ2 a a' := by obtain ⟨τ, rfl, _⟩ := st2.ext; exact ha.ext
          obtain ⟨⟨T, id, hT, hl⟩, g⟩ := S_subV (s := { s with heap := h2, toks := t2 }) (prog := prog) (w := w) (A := A) (E := E) I2 ha' hb' q3 fun y' tk hy => k y' h2 tk σ2 I2 (Step.trans I1 st1 st2) hy
          exact tail_any hT hl g (subscripted_plain hs _ _)
        · cases h
      · cases h
    · cases h

/-- a new own object -/
theorem Post.newO {o : O} {D : Addr} {h' : Heap} {tk : Nat} (k : Post ρ hb nm env fm σ s (H ++ [o]) (.ref H.length) Q) (I : Inv ρ hb nm env fm H σ s.heap)
    (hk : ∀ b o, s.heap.get? b = some o → h'.get? b = some o) (hD : s.heap.get? D = none) (ho : OR ρ (σ ++ [D]) h' D o) : Q (.ref D) { s with heap := h', toks := tk } :=
  k (.ref D) h' tk (σ ++ [D]) (I.push hk hD ho) (Step.push hk hD) (.ref _ _ (get_len I.hr.len))

theorem none_ge {h : Heap} {D : Addr} (hD : h.objs.size ≤ D) : h.get? D = none := by
  cases q : h.get? D with
  | none => rfl
  | some o => exact absurd (Heap.lt_size q) (Nat.not_lt.mpr hD)

theorem slice16 : ∀ m ≤ 16, ((Builtin.Str.strSliceIndices none none 1 m).length == m) = true := by decide +kernel

theorem S_cut (IH : Sound prog w ρ hb r n) (hA : OkA n A) (ht : 1 ≤ s.toks) {e : PySem.Expr} {x : X} (ce : CE nm e (.cut x)) (I : Inv ρ hb nm env fm H σ s.heap) (h : evF K P r fm H (.cut x) = some (v, H')) (k : Post ρ hb nm env fm σ s H' v Q) :
    wpAny (model prog w) A (eval e env) Q E s := by
  cases ce with
  | cut c1 =>
    simp only [evF] at h
    split at h
    · rename_i x H1 q1
      split at h
      · rename_i hz
        cases h
        refine wpAny_Subscript_str_slice (IH.ev hA ht c1 I q1 fun a' h1 t1 σ1 I1 st1 ha ht1 => ?_)
        obtain ⟨t, rfl⟩ := ha.strE
        refine wpAny_evalPart_none (wpAny_evalPart_none ⟨x, t, none, none, rfl, rfl, rfl, ?_⟩)
        have hz' : x.length ≤ 16 := Nat.le_of_ble_eq_true hz
        have e1 : sliceMade x t none none none = .val (.str x t) := by
          unfold sliceMade
          rw [if_pos]
          have := slice16 _ hz'
          unfold slicePicked
          simpa using this
        rw [e1]
        have hk : ∀ b o, h1.get? b = some o → (h1.push { cls := .type "slice", data := .fields #[.none, .none, .none] }).get? b = some o := fun b o q => Heap.get?_push_of_some _ q
        exact k (.str x t) _ t1 σ1 (I1.kept hk) (Step.trans I1 st1 (Step.kept hk)) (.str _ _)
      · cases h
    · rename_i c H1 q1
      split at h
      · rename_i xs q2
        split at h
        · rename_i hz
          cases h
          refine wpAny_Subscript_list_slice (IH.ev hA ht c1 I q1 fun a' h1 t1 σ1 I1 st1 ha ht1 => ?_)
          obtain ⟨a, ea, rfl⟩ := ha.refE
          obtain ⟨a', vs, c', e1, e2, e3⟩ := I1.list q2
          rw [ea] at e1; cases e1
          have hz' := Nat.le_of_ble_eq_true hz
          refine wpAny_evalPart_none (wpAny_evalPart_none ⟨a, vs.toArray, none, none, rfl, isList_of e2, by rw [List.size_toArray, e3.length, sizeLine_eq]; omega, .none, .none, ?_⟩)
          rw [slicePick_all]
          have k1 := Post.on (s := s) (tk1 := t1) k I1 st1
          refine Post.newO (s := { s with heap := h1, toks := t1 }) k1 I1 (fun b o q => Heap.get?_push_of_some _ (Heap.get?_push_of_some _ q)) (none_ge (by show h1.objs.size ≤ h1.objs.size + 1; omega)) ⟨vs, 0, ?_, e3.ext⟩
          have := Heap.get?_push_size (h1.push { cls := .type "slice", data := .fields #[.none, .none, .none] }) (o := { cls := .type "list", data := .seq vs.toArray }) rfl
          rw [Heap.size_push] at this
          exact this
        · cases h
      · cases h
    · cases h

theorem S_lst (IH : Sound prog w ρ hb r n) (hA : OkA n A) (ht : 1 ≤ s.toks) {e : PySem.Expr} {x : List X} (ce : CE nm e (.lst x)) (I : Inv ρ hb nm env fm H σ s.heap) (h : evF K P r fm H (.lst x) = some (v, H')) (k : Post ρ hb nm env fm σ s H' v Q) :
    wpAny (model prog w) A (eval e env) Q E s := by
  cases ce with
  | lst c1 =>
    simp only [evF] at h
    split at h
    · rename_i vs H1 q1
      split at h
      · rename_i hz
        cases h
        have hz' := Nat.le_of_ble_eq_true hz
        refine wpAny_List_spliced (S_spliced IH hA c1 ht I q1 fun vs' h1 t1 σ1 I1 st1 hv => ⟨by rw [hv.length, sizeLine_eq]; omega, ?_⟩)
        have k1 := Post.on (s := s) (tk1 := t1) k I1 st1
        exact Post.newO (s := { s with heap := h1, toks := t1 }) k1 I1 (fun b o q => Heap.get?_push_of_some _ q) (none_ge (Nat.le_refl _)) ⟨vs', 0, Heap.get?_push_size h1 rfl, hv.ext⟩
      · cases h
    · cases h
theorem S_tup (IH : Sound prog w ρ hb r n) (hA : OkA n A) (ht : 1 ≤ s.toks) {e : PySem.Expr} {x : List X} (ce : CE nm e (.tup x)) (I : Inv ρ hb nm env fm H σ s.heap) (h : evF K P r fm H (.tup x) = some (v, H')) (k : Post ρ hb nm env fm σ s H' v Q) :
    wpAny (model prog w) A (eval e env) Q E s := by
  cases ce with
  | tup c1 =>
    simp only [evF] at h
    split at h
    · rename_i vs H1 q1
      split at h
      · rename_i hz
        cases h
        have hz' := Nat.le_of_ble_eq_true hz
        refine wpAny_Tuple_spliced (S_spliced IH hA c1 ht I q1 fun vs' h1 t1 σ1 I1 st1 hv => ⟨by rw [hv.length, sizeLine_eq]; omega, ?_⟩)
        have k1 := Post.on (s := s) (tk1 := t1) k I1 st1
        exact Post.newO (s := { s with heap := h1, toks := t1 }) k1 I1 (fun b o q => Heap.get?_push_of_some _ q) (none_ge (Nat.le_refl _)) ⟨vs', 0, Heap.get?_push_size h1 rfl, hv.ext⟩
      · cases h
    · cases h

/-! builtins by name -/
theorem bi_debug : ∀ x ∈ biNames, (x == ("__debug__" : Str)) = false := by decide +kernel
theorem S_glob (G : GF hb mg mb) (I : Inv ρ hb nm env fm H σ s.heap) {x : Str} {pos : Pos} {f : Value} (hx : gl nm x) (hm : x ∈ biNames) (hf : bootBuiltins x = some f) (k : Q f s) :
    wpAny (model prog w) A (eval (.Name x pos) env) Q E s := by
  have hk : env.kindOf x = some .globalImplicit := by unfold Env.kindOf; rw [I.names]; exact hx
  obtain ⟨g1, g2⟩ := G.bi x hm
  refine Name_function_global I.kind hk (loadGlobal_builtin (mg := mg) (mb := mb) ?_ g1 ?_ (g2.trans hf) k) (bi_debug x hm)
  · rw [I.glob]; exact G.g.keeps I.base
  · rw [I.bt]; exact G.b.keeps I.base

theorem S_call1 (G : GF hb mg mb) (IH : Sound prog w ρ hb r n) (hA : OkA n A) (ht : 1 ≤ s.toks) (I : Inv ρ hb nm env fm H σ s.heap) {f : Str} {id : String} {p q : Pos} {a : PySem.Expr} {x : X} {u : V} (hx : gl nm f)
    (hm : f ∈ biNames) (hf : bootBuiltins f = some (.builtin id)) (hs : isStarE a = false) (c : CE nm a x) (h : r.ev fm H x = some (u, H'))
    (k : Post ρ hb nm env fm σ s H' u (fun u' s' => 1 ≤ s'.toks → wpAny (model prog w) A (call (.builtin id) [u']) Q E s')) : wpAny (model prog w) A (eval (.Call (.Name f p) [a] [] q) env) Q E s := by
  refine wpAny_Call_NameR (S_glob G I hx hm hf ?_)
  have cs : CEs nm [a] [x] := .cons hs c .nil
  refine callWith_builtin (star_plain cs q) ?_
  rw [star_cons hs]
  refine evalArgs_plain (spliced_cons (IH.ev hA ht c I h fun u' h1 t1 σ1 I1 st1 hu ht1 => ?_))
  exact spliced_nil (k u' h1 t1 σ1 I1 st1 hu ht1)
theorem S_call1t (G : GF hb mg mb) (IH : Sound prog w ρ hb r n) (hA : OkA n A) (ht : 1 ≤ s.toks) (I : Inv ρ hb nm env fm H σ s.heap) {f : Str} {id : String} {p q : Pos} {a : PySem.Expr} {x : X} {u : V} (hx : gl nm f)
    (hm : f ∈ biNames) (hf : bootBuiltins f = some (.type id)) (hs : isStarE a = false) (c : CE nm a x) (h : r.ev fm H x = some (u, H'))
    (k : Post ρ hb nm env fm σ s H' u (fun u' s' => 1 ≤ s'.toks → wpAny (model prog w) A (call (.type id) [u']) Q E s')) : wpAny (model prog w) A (eval (.Call (.Name f p) [a] [] q) env) Q E s := by
  refine wpAny_Call_NameR (S_glob G I hx hm hf ?_)
  have cs : CEs nm [a] [x] := .cons hs c .nil
  refine PySem.callWith_type (star_plain cs q) ?_
  rw [star_cons hs]
  refine evalArgs_plain (spliced_cons (IH.ev hA ht c I h fun u' h1 t1 σ1 I1 st1 hu ht1 => ?_))
  exact spliced_nil (k u' h1 t1 σ1 I1 st1 hu ht1)

theorem S_len (G : GF hb mg mb) (IH : Sound prog w ρ hb r n) (hA : OkA n A) (ht : 1 ≤ s.toks) {e : PySem.Expr} {x : X} (ce : CE nm e (.len x)) (I : Inv ρ hb nm env fm H σ s.heap) (h : evF K P r fm H (.len x) = some (v, H')) (k : Post ρ hb nm env fm σ s H' v Q) :
    wpAny (model prog w) A (eval e env) Q E s := by
  cases ce with
  | len hg hs c1 =>
    simp only [evF] at h
    split at h
    · rename_i c H1 q1
      split at h
      · rename_i xs q2
        split at h
        · rename_i hz
          cases h
          have hz' := Nat.le_of_ble_eq_true hz
          refine S_call1 G IH hA ht I hg (by decide +kernel) (by rfl) hs c1 q1 fun u' h1 t1 σ1 I1 st1 hu ht1 => ?_
          obtain ⟨a, ea, rfl⟩ := hu.refE
          obtain ⟨a', vs, c', e1, e2, e3⟩ := I1.list q2
          rw [ea] at e1; cases e1
          refine Calls.call_len_list (isList_of e2) (by rw [List.size_toArray, e3.length]; omega) ?_
          rw [List.size_toArray, e3.length]
          exact k _ h1 _ σ1 I1 st1 (.int _ _)
        · cases h
      · cases h
    · rename_i x H1 q1
      split at h
      · rename_i hz
        cases h
        have hz' := Nat.le_of_ble_eq_true hz
        refine S_call1 G IH hA ht I hg (by decide +kernel) (by rfl) hs c1 q1 fun u' h1 t1 σ1 I1 st1 hu ht1 => ?_
        obtain ⟨t, rfl⟩ := hu.strE
        have hl : x.length = x.cps.toList.length := by simp [Str.length]
        refine PySem.P.len_str (by rw [hl]; omega) ?_
        rw [hl]
        exact k _ h1 _ σ1 I1 st1 (.int _ _)
      · cases h
    · cases h
end
end Mine
end
section
open PySem PySem.Calls PyProof.Rows PySem.W PySem.SeqAt
namespace Mine
set_option maxRecDepth 10000
set_option autoImplicit false
set_option linter.unusedVariables false

section
variable {prog : Program} {w : World} {ρ : Nat → Int} {hb : Heap} {mg mb : Str → Option Value} {K : Orc} {P : List FnD} {r : Rec} {n : Nat} {nm : Nm} {env : Env} {fm : Fm} {H H' : List O} {σ : List Addr} {s : Shared} {A : Around} {E : Value → Shared → Prop}
variable {Q : Value → Shared → Prop} {v : V}

theorem S_isiV {T : String} {b : Bool} {v' : Value} (I : Inv ρ hb nm env fm H σ s.heap) (hv : VR ρ σ v v') (h : isiV H T v = some b) (k : ∀ tk, Q (.bool b) { s with toks := tk }) :
    wpAny (model prog w) A (call (.builtin "isinstance") [v', .type T]) Q E s := by
  have k0 : Q (.bool b) s := k s.toks
  unfold isiV at h
  split at h
  · rw [hv.noneE]
    split at h
    · rename_i e; subst e; cases h; exact IsiPair.NoneType_str (k _)
    · split at h
      · rename_i e; subst e; cases h; exact IsiPair.NoneType_tuple (k _)
      · split at h
        · rename_i e; subst e; cases h; exact IsiPair.NoneType_int (k _)
        · cases h
  · obtain ⟨t, rfl⟩ := hv.strE
    split at h
    · rename_i e; subst e; cases h; exact IsiPair.str_str k0
    · split at h
      · rename_i e; subst e; cases h; exact IsiPair.str_list (k _)
      · cases h
  · obtain ⟨t, rfl⟩ := hv.intE
    split at h
    · rename_i e; subst e; cases h; exact IsiPair.int_int k0
    · split at h
      · rename_i e; subst e; cases h; exact IsiPair.int_str (k _)
      · split at h
        · rename_i e; subst e; cases h; exact IsiPair.int_tuple (k _)
        · cases h
  · split at h
    · rename_i c xs q
      obtain ⟨a, ea, rfl⟩ := hv.refE
      obtain ⟨a', e1, vs, c', e2, e3⟩ := I.hr.at q
      rw [ea] at e1; cases e1
      split at h
      · rename_i e; subst e; cases h; exact IsiPair.list_list e2 rfl k0
      · split at h
        · rename_i e; subst e; cases h; exact IsiPair.list_dict e2 rfl (k _)
        · cases h
    · rename_i c xs q
      obtain ⟨a, ea, rfl⟩ := hv.refE
      obtain ⟨a', e1, vs, c', e2, e3⟩ := I.hr.at q
      rw [ea] at e1; cases e1
      split at h
      · rename_i e; subst e; cases h; exact IsiPair.tuple_tuple e2 rfl k0
      · split at h
        · rename_i e; subst e; cases h; exact IsiPair.tuple_str e2 rfl (k _)
        · cases h
    · cases h
  · cases h

theorem S_isi (G : GF hb mg mb) (IH : Sound prog w ρ hb r n) (hA : OkA n A) (ht : 1 ≤ s.toks) {e : PySem.Expr} {T : String} {x : X} (ce : CE nm e (.isi T x)) (I : Inv ρ hb nm env fm H σ s.heap) (h : evF K P r fm H (.isi T x) = some (v, H')) (k : Post ρ hb nm env fm σ s H' v Q) :
    wpAny (model prog w) A (eval e env) Q E s := by
  cases ce with
  | isi T0 T' hg hg2 hm hT hs c1 =>
    simp only [evF] at h
    split at h
    · rename_i u H1 q1
      split at h
      · rename_i b q2
        cases h
        refine wpAny_Call_NameR (S_glob G I hg (by decide +kernel) (by rfl) ?_)
        refine callWith_builtin (star_plain (.cons hs c1 (.cons rfl (.dead rfl) .nil)) _) ?_
        rw [star_cons hs]
        refine evalArgs_plain (spliced_cons (IH.ev hA ht c1 I q1 fun u' h1 t1 σ1 I1 st1 hu ht1 => ?_))
        rw [star_cons rfl]
        refine spliced_cons (S_glob (s := { s with heap := h1, toks := t1 }) G I1 hg2 hm hT ?_)
        exact spliced_nil (S_isiV (s := { s with heap := h1, toks := t1 }) I1 hu q2 fun tk => k _ h1 tk σ1 I1 st1 (.bool _))
      · cases h
    · cases h

theorem vrs_chars : ∀ (l : List Nat) (vs : List Value), vs.length = l.length → (∀ (j : Nat) (v : Value), vs[j]? = some v → ∃ c u, l[j]? = some c ∧ v = .str ⟨#[c]⟩ u) → VRs ρ σ (l.map fun c => .str ⟨#[c]⟩) vs
  | [], [], _, _ => .nil
  | [], v :: vs, h, _ => by simp at h
  | c :: l, [], h, _ => by simp at h
  | c :: l, v :: vs, h, g => by
    refine .cons ?_ (vrs_chars l vs (by simpa using h) fun j v hj => ?_)
    · obtain ⟨c', u, e, rfl⟩ := g 0 v rfl
      simp at e; subst e
      exact .str _ _
    · have := g (j + 1) v (by simpa using hj)
      simpa using this

theorem S_cpy (G : GF hb mg mb) (IH : Sound prog w ρ hb r n) (hA : OkA n A) (ht : 1 ≤ s.toks) {e : PySem.Expr} {x : X} (ce : CE nm e (.cpy x)) (I : Inv ρ hb nm env fm H σ s.heap) (h : evF K P r fm H (.cpy x) = some (v, H')) (k : Post ρ hb nm env fm σ s H' v Q) :
    wpAny (model prog w) A (eval e env) Q E s := by
  cases ce with
  | cpy hg hs c1 =>
    simp only [evF] at h
    split at h
    · rename_i c H1 q1
      split at h
      · rename_i xs q2
        split at h
        · rename_i hz
          cases h
          have hz' := Nat.le_of_ble_eq_true hz
          refine S_call1t G IH hA ht I hg (by decide +kernel) (by rfl) hs c1 q1 fun u' h1 t1 σ1 I1 st1 hu ht1 => ?_
          obtain ⟨a, ea, rfl⟩ := hu.refE
          obtain ⟨a', vs, c', e1, e2, e3⟩ := I1.list q2
          rw [ea] at e1; cases e1
          have k1 := Post.on (s := s) (tk1 := t1) k I1 st1
          refine call_list_seq a (.inl rfl) e2 rfl rfl (fun h' c'' hk hn => ?_) (by rw [List.size_toArray, e3.length, sizeLine_eq]; omega)
          exact Post.newO (s := { s with heap := h1, toks := t1 }) k1 I1 hk (none_ge (Nat.le_refl _)) ⟨vs, c'', hn, e3.ext⟩
        · cases h
      · cases h
    · rename_i x H1 q1
      split at h
      · rename_i hz
        cases h
        have hz' := Nat.le_of_ble_eq_true hz
        refine S_call1t G IH hA ht I hg (by decide +kernel) (by rfl) hs c1 q1 fun u' h1 t1 σ1 I1 st1 hu ht1 => ?_
        obtain ⟨t, rfl⟩ := hu.strE
        have k1 := Post.on (s := s) (tk1 := t1) k I1 st1
        have hl : x.cps.size = x.cps.toList.length := by simp
        refine call_list_str hA.1 x t (fun h' tk acc' c'' hk hn hit => ?_) (by rw [hl, sizeLine_eq]; omega)
        refine Post.newO (s := { s with heap := h1, toks := t1 }) k1 I1 hk (none_ge (Nat.le_refl _)) ⟨acc'.toList, c'', by simpa using hn, ?_⟩
        refine vrs_chars _ _ (by simpa using hit.1) fun j v hj => ?_
        obtain ⟨c, u, hc, rfl⟩ := hit.2 j v (by simpa using hj)
        exact ⟨c, u, by simpa using hc, rfl⟩
      · cases h
    · cases h

theorem strs_of {xs : List V} : ∀ {ts : List Str} {vs : List Value}, strsOf xs = some ts → VRs ρ σ xs vs → ∃ l : List (Str × Tok), strValues l = vs ∧ l.map (·.1) = ts := by
  induction xs with
  | nil =>
    intro ts vs h hv
    simp only [strsOf, Option.some.injEq] at h
    subst h
    cases hv
    exact ⟨[], rfl, rfl⟩
  | cons x xs ih =>
    intro ts vs h hv
    cases x <;> simp only [strsOf] at h <;> try cases h
    split at h
    · rename_i t q
      cases h
      cases hv with
      | cons h1 h2 =>
        obtain ⟨t', rfl⟩ := h1.strE
        obtain ⟨l, rfl, rfl⟩ := ih q h2
        exact ⟨(_, t') :: l, rfl, rfl⟩
    · cases h

theorem S_join (IH : Sound prog w ρ hb r n) (hA : OkA n A) (ht : 1 ≤ s.toks) {e : PySem.Expr} {x : X} (ce : CE nm e (.join x)) (I : Inv ρ hb nm env fm H σ s.heap) (h : evF K P r fm H (.join x) = some (v, H')) (k : Post ρ hb nm env fm σ s H' v Q) :
    wpAny (model prog w) A (eval e env) Q E s := by
  cases ce with
  | join hs hl c1 =>
    simp only [evF] at h
    split at h
    · rename_i c H1 q1
      split at h
      · rename_i xs q2
        split at h
        · rename_i ts q3
          split at h
          · rename_i hj
            cases h
            refine Call_method1 rfl (star_cons hs) hl (Constant_str ?_)
            refine SB.join (IH.ev (s := { s with toks := s.toks + 1 }) hA (Nat.le_add_left _ _) c1 I q1 fun u' h1 t1 σ1 I1 st1 hu ht1 => ?_)
            obtain ⟨a, ea, rfl⟩ := hu.refE
            obtain ⟨a', vs, c', e1, e2, e3⟩ := I1.list q2
            rw [ea] at e1; cases e1
            obtain ⟨l, rfl, hl'⟩ := strs_of q3 e3
            exact ⟨a, l, rfl, isList_of e2, ts, hl', hj, fun t' tk => k _ h1 tk σ1 I1 st1 (.str _ _)⟩
          · cases h
        · cases h
      · cases h
    · cases h
end
end Mine
end
section
open PySem PySem.Calls PyProof.Rows PySem.W PySem.SeqAt
namespace Mine
set_option maxRecDepth 10000
set_option autoImplicit false
set_option linter.unusedVariables false

section
variable {prog : Program} {w : World} {ρ : Nat → Int} {hb : Heap} {mg mb : Str → Option Value} {K : Orc} {P : List FnD} {r : Rec} {n : Nat} {nm : Nm} {env : Env} {fm : Fm} {H H' : List O} {σ : List Addr} {s : Shared} {A : Around} {E : Value → Shared → Prop}
variable {Q : Value → Shared → Prop} {v : V}

theorem upd_list {h : Heap} {D : Addr} {vs : List Value} {c : Nat} (e : h.get? D = some (listOf (List.toArray vs) c)) (f : Array Value → Array Value) {us : List Value} (hf : f (List.toArray vs) = List.toArray us) :
    ∃ c', (h.update D (Obj.mapSeq f)).get? D = some (listOf (List.toArray us) c') := by
  have := IsL.update (h := h) (l := D) (items := List.toArray vs) (n := c) e f
  rw [hf] at this
  exact ⟨_, this⟩

theorem Post.updO {m : Nat} {D : Addr} {vs us : List Value} {xs ys : List V} {c tk : Nat} {z : Value} {f : Array Value → Array Value} (k : Post ρ hb nm env fm σ s (H.set m (.list ys)) v Q) (I : Inv ρ hb nm env fm H σ s.heap)
    (hm : fm.fz ≤ m) (ho : H[m]? = some (.list xs)) (hD : σ[m]? = some D) (e : s.heap.get? D = some (listOf (List.toArray vs) c)) (hf : f (List.toArray vs) = List.toArray us) (hu : VRs ρ σ ys us) (hz : VR ρ σ v z) :
    Q z { s with heap := s.heap.update D (Obj.mapSeq f), toks := tk } := by
  obtain ⟨c', e'⟩ := upd_list e f hf
  exact k z _ tk σ (I.upd hm ho hD (Heap.SameBut.update ..) ⟨us, c', e', hu⟩) (Step.upd hm hD (Heap.SameBut.update ..)) hz

theorem list_method {name : Str} {id : String} {a : Addr} {vs : List Value} {c : Nat} {args : List (Bool × Sem Value)} {pos : Pos} (e : s.heap.get? a = some (listOf (List.toArray vs) c)) (sl : Slot "list" name id) (ty : typeOf (.builtin id) = pure (.type "method_descriptor"))
    (h : wpAny (model prog w) A (callWith pos (.builtin id) [.ref a] args []) Q E s) : MethodOnS prog w A E name (.ref a) pos args Q s :=
  ⟨"list", id, F.plainAttrs_list, sl, ty, (isList_of e).typeIs, fun _ q => by cases q; exact ⟨_, e, rfl⟩, h⟩

theorem S_app (IH : Sound prog w ρ hb r n) (hA : OkA n A) (ht : 1 ≤ s.toks) {e : PySem.Expr} {o x : X} (ce : CE nm e (.app o x)) (I : Inv ρ hb nm env fm H σ s.heap) (h : evF K P r fm H (.app o x) = some (v, H')) (k : Post ρ hb nm env fm σ s H' v Q) :
    wpAny (model prog w) A (eval e env) Q E s := by
  cases ce with
  | app hs hl c0 c1 =>
    simp only [evF] at h
    split at h
    · rename_i m H1 q1
      split at h
      · rename_i ws q2
        split at h
        · rename_i u H2 q3
          split at h
          · rename_i xs q4
            split at h
            · rename_i hz
              cases h
              simp only [Bool.and_eq_true] at hz
              have hz1 := Nat.le_of_ble_eq_true hz.1
              have hz2 := Nat.le_of_ble_eq_true hz.2
              refine Call_method1 rfl (star_cons hs) hl (IH.ev hA ht c0 I q1 fun u' h1 t1 σ1 I1 st1 hu ht1 => ?_)
              obtain ⟨a, ea, rfl⟩ := hu.refE
              obtain ⟨a', vs, c', e1, e2, e3⟩ := I1.list q2
              rw [ea] at e1; cases e1
              refine list_method e2 F.slot_list_append F.type_list_append (PySem.P.append_list (IH.ev (s := { s with heap := h1, toks := t1 }) hA ht1 c1 I1 q3 fun v' h2 t2 σ2 I2 st2 hv ht2 => ?_))
              have ea2 : σ2[m]? = some a := by obtain ⟨τ, rfl, _⟩ := st2.ext; exact get_ext ea
              obtain ⟨a', us, d, f1, f2, f3⟩ := I2.list q4
              rw [ea2] at f1; cases f1
              refine ⟨us.toArray, d, by rw [List.size_toArray, f3.length, sizeLine_eq]; omega, f2, ?_⟩
              exact Post.updO (s := { s with heap := h2, toks := t2 }) (tk := t2) (Post.on (s := s) k I2 (Step.trans I1 st1 st2)) I2 hz1 (getL_some q4) ea2 f2 (us := us ++ [v']) (by simp) (f3.snoc hv) .none
            · cases h
          · cases h
        · cases h
      · cases h
    · cases h

theorem S_ext (IH : Sound prog w ρ hb r n) (hA : OkA n A) (ht : 1 ≤ s.toks) {e : PySem.Expr} {o x : X} (ce : CE nm e (.ext o x)) (I : Inv ρ hb nm env fm H σ s.heap) (h : evF K P r fm H (.ext o x) = some (v, H')) (k : Post ρ hb nm env fm σ s H' v Q) :
    wpAny (model prog w) A (eval e env) Q E s := by
  cases ce with
  | ext hs hl c0 c1 =>
    simp only [evF] at h
    split at h
    · rename_i m H1 q1
      split at h
      · rename_i ws q2
        split at h
        · rename_i p H2 q3
          split at h
          · rename_i xs q4
            split at h
            · rename_i ys q5
              split at h
              · rename_i hz
                cases h
                simp only [Bool.and_eq_true] at hz
                have hz1 := Nat.le_of_ble_eq_true hz.1
                have hz2 := Nat.le_of_ble_eq_true hz.2
                refine Call_method1 rfl (star_cons hs) hl (IH.ev hA ht c0 I q1 fun u' h1 t1 σ1 I1 st1 hu ht1 => ?_)
                obtain ⟨a, ea, rfl⟩ := hu.refE
                obtain ⟨a', vs, c', e1, e2, e3⟩ := I1.list q2
                rw [ea] at e1; cases e1
                refine list_method e2 F.slot_list_extend F.type_list_extend (PySem.P.extend_list (IH.ev (s := { s with heap := h1, toks := t1 }) hA ht1 c1 I1 q3 fun v' h2 t2 σ2 I2 st2 hv ht2 => ?_))
                have ea2 : σ2[m]? = some a := by obtain ⟨τ, rfl, _⟩ := st2.ext; exact get_ext ea
                obtain ⟨b, eb, rfl⟩ := hv.refE
                obtain ⟨a', us, d, f1, f2, f3⟩ := I2.list q4
                rw [ea2] at f1; cases f1
                obtain ⟨b', us', d', g1, g2, g3⟩ := I2.list q5
                rw [eb] at g1; cases g1
                have l1 := f3.length
                have l2 := g3.length
                refine ⟨b, us.toArray, us'.toArray, d, d', by rw [List.size_toArray, sizeLine_eq]; omega, by rw [List.size_toArray, List.size_toArray, sizeLine_eq]; omega, ?_, rfl, f2, g2, ?_⟩
                · have : Builtin.List.listTooLong (us.toArray.size + us'.toArray.size) = false := by
                    unfold Builtin.List.listTooLong
                    simp only [List.size_toArray, sizeLine_eq]
                    simp
                    omega
                  rw [this]; simp
                · exact Post.updO (s := { s with heap := h2, toks := t2 }) (tk := t2) (Post.on (s := s) k I2 (Step.trans I1 st1 st2)) I2 hz1 (getL_some q4) ea2 f2 (us := us ++ us') (by simp) (f3.append g3) .none
              · cases h
            · cases h
          · cases h
        · cases h
      · cases h
    · cases h

theorem S_rev (IH : Sound prog w ρ hb r n) (hA : OkA n A) (ht : 1 ≤ s.toks) {e : PySem.Expr} {o : X} (ce : CE nm e (.rev o)) (I : Inv ρ hb nm env fm H σ s.heap) (h : evF K P r fm H (.rev o) = some (v, H')) (k : Post ρ hb nm env fm σ s H' v Q) :
    wpAny (model prog w) A (eval e env) Q E s := by
  cases ce with
  | rev hl c0 =>
    simp only [evF] at h
    split at h
    · rename_i m H1 q1
      split at h
      · rename_i xs q2
        split at h
        · rename_i hz
          cases h
          simp only [Bool.and_eq_true] at hz
          have hz1 := Nat.le_of_ble_eq_true hz.1
          have hz2 := Nat.le_of_ble_eq_true hz.2
          refine Call_method0 rfl hl (IH.ev hA ht c0 I q1 fun u' h1 t1 σ1 I1 st1 hu ht1 => ?_)
          obtain ⟨a, ea, rfl⟩ := hu.refE
          obtain ⟨a', vs, c', e1, e2, e3⟩ := I1.list q2
          rw [ea] at e1; cases e1
          refine list_method e2 F.slot_list_reverse F.type_list_reverse (PySem.P.reverse_list (s := { s with heap := h1, toks := t1 }) e2 ?_ (by rw [List.size_toArray, e3.length, sizeLine_eq]; omega))
          exact Post.updO (s := { s with heap := h1, toks := t1 }) (tk := t1) (Post.on (s := s) k I1 st1) I1 hz1 (getL_some q2) ea e2 (us := vs.reverse) (by simp) e3.reverse .none
        · cases h
      · cases h
    · cases h

theorem VRs.last {x : V} {ys : List V} {vs : List Value} (h : VRs ρ σ (x :: ys) vs) : ∃ y', vs[vs.length - 1]? = some y' ∧ VR ρ σ ((x :: ys).getLast (List.cons_ne_nil _ _)) y' := by
  have hl := h.length
  have e : (x :: ys)[vs.length - 1]? = some ((x :: ys).getLast (List.cons_ne_nil _ _)) := by
    rw [List.getLast_eq_getElem, hl]
    simp
  exact h.get e

theorem S_pop (IH : Sound prog w ρ hb r n) (hA : OkA n A) (ht : 1 ≤ s.toks) {e : PySem.Expr} {o : X} (ce : CE nm e (.pop o)) (I : Inv ρ hb nm env fm H σ s.heap) (h : evF K P r fm H (.pop o) = some (v, H')) (k : Post ρ hb nm env fm σ s H' v Q) :
    wpAny (model prog w) A (eval e env) Q E s := by
  cases ce with
  | pop hl c0 =>
    simp only [evF] at h
    split at h
    · rename_i m H1 q1
      unfold popAt at h
      split at h
      · rename_i m
        split at h
        · rename_i xs q2
          split at h
          · rename_i hz
            simp only [Bool.and_eq_true] at hz
            have hz1 := Nat.le_of_ble_eq_true hz.1
            have hz2 := Nat.le_of_ble_eq_true hz.2
            cases xs with
            | nil => cases h
            | cons x ys =>
              cases h
              refine Call_method0 rfl hl (IH.ev hA ht c0 I q1 fun u' h1 t1 σ1 I1 st1 hu ht1 => ?_)
              obtain ⟨a, ea, rfl⟩ := hu.refE
              obtain ⟨a', vs, c', e1, e2, e3⟩ := I1.list q2
              rw [ea] at e1; cases e1
              obtain ⟨y', hy, hv⟩ := e3.last
              have hlen := e3.length
              refine list_method e2 F.slot_list_pop F.type_list_pop (PySem.P.pop_list (s := { s with heap := h1, toks := t1 }) e2 (y := y') (by simpa using hy) ?_ (by rw [List.size_toArray, hlen, sizeLine_eq]; omega))
              refine Post.updO (s := { s with heap := h1, toks := t1 }) (tk := t1) (Post.on (s := s) k I1 st1) I1 hz1 (getL_some q2) ea e2 (us := vs.dropLast) ?_ e3.dropLast hv
              apply Array.toList_inj.mp
              simp [Array.eraseIdxIfInBounds]
              split <;> simp_all [List.dropLast_eq_take]
          · cases h
        · cases h
      · cases h
    · cases h

theorem S_pop0 (IH : Sound prog w ρ hb r n) (hA : OkA n A) (ht : 1 ≤ s.toks) {e : PySem.Expr} {o : X} (ce : CE nm e (.pop0 o)) (I : Inv ρ hb nm env fm H σ s.heap) (h : evF K P r fm H (.pop0 o) = some (v, H')) (k : Post ρ hb nm env fm σ s H' v Q) :
    wpAny (model prog w) A (eval e env) Q E s := by
  cases ce with
  | pop0 hl c0 =>
    simp only [evF] at h
    split at h
    · rename_i m H1 q1
      unfold popAt at h
      split at h
      · rename_i m
        split at h
        · rename_i xs q2
          split at h
          · rename_i hz
            simp only [Bool.and_eq_true] at hz
            have hz1 := Nat.le_of_ble_eq_true hz.1
            have hz2 := Nat.le_of_ble_eq_true hz.2
            cases xs with
            | nil => cases h
            | cons x ys =>
              cases h
              refine Call_method1 rfl rfl hl (IH.ev hA ht c0 I q1 fun u' h1 t1 σ1 I1 st1 hu ht1 => ?_)
              obtain ⟨a, ea, rfl⟩ := hu.refE
              obtain ⟨a', vs, c', e1, e2, e3⟩ := I1.list q2
              rw [ea] at e1; cases e1
              have hlen := e3.length
              rcases e3.split with ⟨q, _⟩ | ⟨x0, v0, r0, t0, q, rfl, hv, hr⟩
              · cases q
              · cases q
                refine list_method e2 F.slot_list_pop F.type_list_pop (PySem.P.pop_at_list (s := { s with heap := h1, toks := t1 }) (wpAny_Constant_int ?_))
                refine ⟨(v0 :: t0).toArray, c', 0, t1, 0, v0, by rw [List.size_toArray, hlen, sizeLine_eq]; omega, rfl, e2, by decide +kernel, by simp [seqIndex?], by simp, ?_⟩
                refine Post.updO (s := { s with heap := h1, toks := t1 }) (tk := t1 + 1) (Post.on (s := s) k I1 st1) I1 hz1 (getL_some q2) ea e2 (us := t0) ?_ hr hv
                simp [Array.eraseIdxIfInBounds]
          · cases h
        · cases h
      · cases h
    · cases h
end
end Mine
end
section
open PySem PySem.Calls PyProof.Rows PySem.W PySem.SeqAt
open AutoSeq1 (wpAny_loadPart')
open MeetsSeq MeetsSeq2 MeetsSeq3
namespace Mine
set_option maxRecDepth 10000
set_option autoImplicit false
set_option linter.unusedVariables false

def ltP (x1 x2 y1 y2 : Int) : Bool := match decide (x1 = y1) with
  | true => decide (x2 < y2)
  | false => decide (x1 < y1)

section
variable (l b : Addr) (items items2 : Array Value) (x1 x2 y1 y2 : Int) (t1 t2 u1 u2 : Tok) (n n2 : Nat) (dd dd2 : Option Addr) (sl sl2 : Array (Option Value))
  (hi : items = #[.int x1 t1, .int x2 t2]) (hj : items2 = #[.int y1 u1, .int y2 u2])
include hi hj
theorem lt_loop2 : Meets (Builtin.«list.__eq__.loop» ⟨[.ref l, .ref b, rawInt 2, rawInt 0], []⟩)
    (fun A R s => s.heap.get? l = some { cls := .type "list", dict := dd, data := .seq items n, slots := sl } ∧ s.heap.get? b = some { cls := .type "list", dict := dd2, data := .seq items2 n2, slots := sl2 } ∧
      R (.ok (.ret (.bool false))) s) := by
  intro prog w A R s h
  obtain ⟨hp, g, d, tk, os⟩ := s; obtain ⟨hl, hb, h⟩ := h
  subst hi hj
  wp_walk using wpAny_loadPart' hl, wpAny_loadPart' hb
  exact h

theorem lt_loop1 : Meets (Builtin.«list.__eq__.loop» ⟨[.ref l, .ref b, rawInt 1, rawInt 0], []⟩)
    (fun A R s => s.heap.get? l = some { cls := .type "list", dict := dd, data := .seq items n, slots := sl } ∧ s.heap.get? b = some { cls := .type "list", dict := dd2, data := .seq items2 n2, slots := sl2 } ∧
      R (.ok (.ret (.bool (decide (x2 < y2))))) s) := by
  intro prog w A R s h
  obtain ⟨hp, g, d, tk, os⟩ := s; obtain ⟨hl, hb, h⟩ := h
  wp_walk using wpAny_loadPart' hl, wpAny_loadPart' hb
  have hi1 : items[((1 : Int)).toNat]? = some (.int x2 t2) := by rw [hi]; rfl
  have hi2 : items2[((1 : Int)).toNat]? = some (.int y2 u2) := by rw [hj]; rfl
  rw [hi1, hi2]
  refine wpAny_bind (EqAt.int_int _ _ _ _ prog w _ _ ?_)
  cases hq : (x2 == y2) with
  | true =>
    have e : x2 = y2 := eq_of_beq hq
    wp_walk
    exact ⟨plainId_quiet plain_eq_loop _, codeAny_builtin entry_eq_loop (by
      rw [Around.under_plainId plain_eq_loop _]
      have hf : decide (x2 < y2) = false := by subst e; simp
      rw [hf] at h
      exact lt_loop2 l b items items2 x1 x2 y1 y2 t1 t2 u1 u2 n n2 dd dd2 sl sl2 hi hj prog w A R _ ⟨hl, hb, h⟩)⟩
  | false =>
    wp_walk using wpAny_loadPart' hl, wpAny_loadPart' hb
    rw [hi1, hi2]
    refine wpAny_bind (wpAny_lt_int ?_)
    exact wpAny_pure h

theorem lt_loop0 : Meets (Builtin.«list.__eq__.loop» ⟨[.ref l, .ref b, rawInt 0, rawInt 0], []⟩)
    (fun A R s => s.heap.get? l = some { cls := .type "list", dict := dd, data := .seq items n, slots := sl } ∧ s.heap.get? b = some { cls := .type "list", dict := dd2, data := .seq items2 n2, slots := sl2 } ∧
      R (.ok (.ret (.bool (ltP x1 x2 y1 y2)))) s) := by
  intro prog w A R s h
  obtain ⟨hp, g, d, tk, os⟩ := s; obtain ⟨hl, hb, h⟩ := h
  wp_walk using wpAny_loadPart' hl, wpAny_loadPart' hb
  have hi1 : items[((0 : Int)).toNat]? = some (.int x1 t1) := by rw [hi]; rfl
  have hi2 : items2[((0 : Int)).toNat]? = some (.int y1 u1) := by rw [hj]; rfl
  rw [hi1, hi2]
  refine wpAny_bind (EqAt.int_int _ _ _ _ prog w _ _ ?_)
  cases hq : (x1 == y1) with
  | true =>
    have e : x1 = y1 := eq_of_beq hq
    wp_walk
    exact ⟨plainId_quiet plain_eq_loop _, codeAny_builtin entry_eq_loop (by
      rw [Around.under_plainId plain_eq_loop _]
      have hf : ltP x1 x2 y1 y2 = decide (x2 < y2) := by unfold ltP; rw [decide_eq_true e]
      rw [hf] at h
      exact lt_loop1 l b items items2 x1 x2 y1 y2 t1 t2 u1 u2 n n2 dd dd2 sl sl2 hi hj prog w A R _ ⟨hl, hb, h⟩)⟩
  | false =>
    have e : x1 ≠ y1 := ne_of_beq_false hq
    wp_walk using wpAny_loadPart' hl, wpAny_loadPart' hb
    rw [hi1, hi2]
    refine wpAny_bind (wpAny_lt_int ?_)
    have hf : ltP x1 x2 y1 y2 = decide (x1 < y1) := by unfold ltP; rw [decide_eq_false e]
    rw [hf] at h
    exact wpAny_pure h

theorem list_lt : Meets (Builtin.«list.__lt__» ⟨[.ref l, .ref b], []⟩)
    (fun A R s => s.heap.get? l = some { cls := .type "list", dict := dd, data := .seq items n, slots := sl } ∧ s.heap.get? b = some { cls := .type "list", dict := dd2, data := .seq items2 n2, slots := sl2 } ∧
      R (.ok (.ret (.bool (ltP x1 x2 y1 y2)))) s) := by
  intro prog w A R s h
  obtain ⟨hp, g, d, tk, os⟩ := s; obtain ⟨hl, hb, h⟩ := h
  have f3 := AutoSeq1.sub_list_list
  wp_walk using wpAny_loadPart' hl, wpAny_loadPart' hb
  exact ⟨plainId_quiet plain_eq_loop _, codeAny_builtin entry_eq_loop (by
    rw [Around.under_plainId plain_eq_loop _]
    exact lt_loop0 l b items items2 x1 x2 y1 y2 t1 t2 u1 u2 n n2 dd dd2 sl sl2 hi hj prog w A R _ ⟨hl, hb, h⟩)⟩
end

section
variable {prog : Program} {w : World} {A : Around} {E : Value → Shared → Prop} {s : Shared}
theorem lt_pair {l b : Addr} {x1 x2 y1 y2 : Int} {t1 t2 u1 u2 : Tok} {n n2 : Nat} {Q : Bool → Shared → Prop} (hu : A.units < cLine) (hl : s.heap.get? l = some (listOf #[.int x1 t1, .int x2 t2] n)) (hb : s.heap.get? b = some (listOf #[.int y1 u1, .int y2 u2] n2))
    (h : Q (ltP x1 x2 y1 y2) s) : wpAny (model prog w) A (keyLt' oneType' (.ref l) (.ref b)) Q E s := by
  rw [keyLt'_oneType, oneLt'_eq]
  simp only [if_true]
  refine wpAny_bind (wpAny_cRoomFor hu ?_)
  refine wpAny_bind (wpAny_callSpecialIfBound?_slot (T := "list") ⟨_, hl, rfl⟩ F.slot_list_lt (call_meets F.slot_list_lt ⟨_, hl, rfl⟩ F.entry_list_lt (F.args_list_lt_2 _ _) (list_lt l b _ _ x1 x2 y1 y2 t1 t2 u1 u2 n n2 none none #[] #[] rfl rfl) ⟨hl, hb, ?_⟩))
  exact wpAny_truthy_bool h
end
end Mine
end
section
open PySem PySem.Calls PyProof.Rows PySem.W PySem.SeqAt
namespace Mine
set_option maxRecDepth 10000
set_option autoImplicit false
set_option linter.unusedVariables false

theorem kas_eval {α : Type} {cmp : Nat → Nat → (Bool → Shared → Prop) → Shared → Prop} {n : Nat} {c : Nat → Nat → Bool} {Q : α → Shared → Prop} {s : Shared} {a : α}
    (ask : ∀ i j (C : Bool → Shared → Prop), i < n → j < n → C (c i j) s → cmp i j C s) (hQ : Q a s) : ∀ t : KasT α, kasRun n c t = some a → t.kasWp cmp Q s
  | .ret b, h => by
    simp only [kasRun, Option.some.injEq] at h
    subst h; exact hQ
  | .ask i j k, h => by
    simp only [kasRun] at h
    split at h
    · rename_i hz
      simp only [Bool.and_eq_true] at hz
      exact ask i j _ (Nat.le_of_ble_eq_true hz.1) (Nat.le_of_ble_eq_true hz.2) (kas_eval ask hQ (k (c i j)) h)
    · cases h

theorem ltPair_eq (p q : Int × Int) : ltPair p q = ltP p.1 p.2 q.1 q.2 := rfl

section
variable {prog : Program} {w : World} {ρ : Nat → Int} {hb : Heap} {mg mb : Str → Option Value} {K : Orc} {P : List FnD} {r : Rec} {n : Nat} {nm : Nm} {env : Env} {fm : Fm} {H H' : List O} {σ : List Addr} {s : Shared} {A : Around} {E : Value → Shared → Prop}
variable {Q : Value → Shared → Prop} {v : V}

/-- one own object changed, the others (but the frame) kept -/
theorem Inv.updL {h h' : Heap} {m : Str → Option Value} {k : Nat} {D : Addr} {o o' : O} (I : Inv ρ hb nm env fm H σ h) (hn' : h'.Ns env.locals m) (hm : SlRs ρ σ m env.cells nm fm.sl) (hn : fm.fz ≤ k) (ho : H[k]? = some o) (hD : σ[k]? = some D)
    (hk : ∀ b o, b ≠ env.locals → b ≠ D → h.get? b = some o → h'.get? b = some o) (hx : OR ρ σ h' D o') : Inv ρ hb nm env fm (H.set k o') σ h' where
  kind := I.kind
  names := I.names
  glob := I.glob
  bt := I.bt
  base := fun b o e => hk b o (fun q => by rw [q, I.lb] at e; cases e) (fun q => by rw [q, I.mtb k D hn hD] at e; cases e) (I.base b o e)
  nd := I.nd
  ns := ⟨m, hn', hm⟩
  hr := ⟨by simp [I.hr.len], fun j o'' a e e' => by
    by_cases hj : j = k
    · subst hj
      have hlt : j < H.length := (List.getElem?_eq_some_iff.mp ho).1
      rw [List.getElem?_set_self hlt] at e
      cases e
      rw [hD] at e'; cases e'
      exact hx
    · rw [List.getElem?_set_ne (Ne.symm hj)] at e
      have ha : a ≠ D := fun q => hj (nodup_get I.nodup e' (q ▸ hD))
      have := (I.hr.obj j o'' a e e').ext (τ := []) (h' := h') fun ob q => hk a ob (fun z => I.loc (z ▸ List.mem_of_getElem? e')) ha q
      simpa using this⟩
  nodup := I.nodup
  loc := I.loc
  lb := I.lb
  mtb := I.mtb
  fzle := by have := I.fzle; simpa using this
theorem Step.updL {fz k : Nat} {D : Addr} {h h' : Heap} (hn : fz ≤ k) (hD : σ[k]? = some D) (hk : ∀ b o, b ≠ env.locals → b ≠ D → h.get? b = some o → h'.get? b = some o) : Step env fz σ h σ h' :=
  ⟨⟨[], by simp, by simp⟩, fun b o hL hM e => hk b o hL (fun q => hM k hn (q ▸ hD)) e⟩

theorem pairs_at {h : Heap} (hr : HR ρ σ H h) {xs : List V} : ∀ {ps : List (Int × Int)} {vs : List Value}, intPairs H xs = some ps → VRs ρ σ xs vs → ∀ i, i < xs.length →
    ∃ m a c t1 t2, vs.getD i Value.none = .ref a ∧ xs.getD i .none = .ref m ∧ σ[m]? = some a ∧ H[m]? = some (.list [.int (ps.getD i (0, 0)).1, .int (ps.getD i (0, 0)).2]) ∧ h.get? a = some (listOf #[.int (ps.getD i (0, 0)).1 t1, .int (ps.getD i (0, 0)).2 t2] c) := by
  induction xs with
  | nil => intro ps vs _ _ i hi; simp at hi
  | cons x xs ih =>
    intro ps vs hp hv i hi
    simp only [intPairs] at hp
    split at hp
    · rename_i p q1
      split at hp
      · rename_i l q2
        cases hp
        cases hv with
        | cons h1 h2 =>
          cases i with
          | succ i => simpa using ih q2 h2 i (by simpa using hi)
          | zero =>
            unfold intPair at q1
            split at q1
            · rename_i m
              split at q1
              · rename_i a b q3
                cases q1
                obtain ⟨ad, ea, rfl⟩ := h1.refE
                obtain ⟨a', e1, ws, c, e2, e3⟩ := hr.at q3
                rw [ea] at e1; cases e1
                cases e3 with
                | cons g1 g2 => cases g2 with
                  | cons g2 g3 =>
                    cases g3
                    obtain ⟨t1, rfl⟩ := g1.intE
                    obtain ⟨t2, rfl⟩ := g2.intE
                    exact ⟨m, ad, c, t1, t2, rfl, rfl, ea, q3, e2⟩
              · cases q1
            · cases q1
      · cases hp
    · cases hp

theorem VRs.getD {xs : List V} {vs : List Value} (h : VRs ρ σ xs vs) : ∀ i, VR ρ σ (xs.getD i .none) (vs.getD i .none) := by
  induction h with
  | nil => intro i; simp; exact .none
  | cons h _ ih =>
    intro i
    cases i with
    | zero => exact h
    | succ i => simpa using ih i

theorem S_srt (IH : Sound prog w ρ hb r n) (hA : OkA n A) (ht : 1 ≤ s.toks) {e : PySem.Expr} {o : X} (ce : CE nm e (.srt o)) (I : Inv ρ hb nm env fm H σ s.heap) (h : evF K P r fm H (.srt o) = some (v, H')) (k : Post ρ hb nm env fm σ s H' v Q) :
    wpAny (model prog w) A (eval e env) Q E s := by
  cases ce with
  | srt hl c0 =>
    simp only [evF] at h
    split at h
    · rename_i m H1 q1
      split at h
      · rename_i xs q2
        split at h
        · rename_i ps q3
          split at h
          · rename_i hz
            split at h
            · rename_i p q4
              cases h
              simp only [Bool.and_eq_true] at hz
              have hz1 := Nat.le_of_ble_eq_true hz.1.1
              have hz2 := Nat.le_of_ble_eq_true hz.1.2
              have hz3 : xs.length < 64 := Nat.le_of_ble_eq_true hz.2
              refine Call_method0 rfl hl (IH.ev hA ht c0 I q1 fun u' h1 t1 σ1 I1 st1 hu ht1 => ?_)
              obtain ⟨D, eD, rfl⟩ := hu.refE
              obtain ⟨a', vs, c', e1, e2, e3⟩ := I1.list q2
              rw [eD] at e1; cases e1
              have hlen := e3.length
              refine list_method e2 F.slot_list_sort F.type_list_sort (callWith_builtin rfl (evalArgs_nil3 ?_))
              obtain ⟨mm, hn, hm⟩ := I1.ns
              have hDL : D ≠ env.locals := fun q => I1.loc (q ▸ List.mem_of_getElem? eD)
              have N0 : News {} env.locals h1 ((D, listOf (List.toArray vs) c') :: (fullN h1 env.locals).filter fun q => q.1 ≠ D) := fun q hq => by
                rcases List.mem_cons.mp hq with rfl | hq
                · exact ⟨e2, hDL, none_empty _⟩
                · exact fullN_news h1 env.locals q (List.mem_filter.mp hq).1
              have cD : ∀ q ∈ (fullN h1 env.locals).filter (fun q => q.1 ≠ D), q.1 ≠ D := fun q hq => by have := (List.mem_filter.mp hq).2; simpa using this
              have keep : ∀ {h2 : Heap} {ob : Obj}, News {} env.locals h2 ((D, ob) :: (fullN h1 env.locals).filter fun q => q.1 ≠ D) → ∀ b o, b ≠ env.locals → b ≠ D → h1.get? b = some o → h2.get? b = some o := fun N' b o hb1 hb2 e =>
                (N' (b, o) (.tail _ (List.mem_filter.mpr ⟨mem_fullN hb1 e, by simpa using hb2⟩))).1
              have hat := pairs_at (h := h1) I1.hr q3 e3
              have ne : ∀ {m' : Nat} {a : Addr} {x1 x2 : Int}, H1[m']? = some (.list [.int x1, .int x2]) → σ1[m']? = some a → a ≠ D := fun {m'} {a} {x1} {x2} g1 g2 q => by
                subst q
                have := nodup_get I1.nodup g2 eD
                subst this
                rw [getL_some q2] at g1
                cases g1
                simp [intPairs, intPair] at q3
              refine kas_lsort (vs := vs) (T := .type "list") (s := { s with heap := h1, toks := t1 }) (fr_any hn) N0 (.head cD) rfl (by omega) (by omega) (fun e1' h2 F' N' v' hv' => ?_) (by decide +kernel) fun e1' h2 F' N' => ?_
              · obtain ⟨i, hi, ei⟩ := List.mem_iff_getElem.mp hv'
                obtain ⟨m', a, c, t1', t2', g1, g2, g3, g4, g5⟩ := hat i (by omega)
                have ei' : vs.getD i Value.none = v' := by simp [hi, ei]
                rw [g1] at ei'
                subst ei'
                have haD := ne g4 g3
                have haL : a ≠ env.locals := fun q => I1.loc (q ▸ List.mem_of_getElem? g3)
                have e2' := keep N' a _ haL haD g5
                exact fun A' Q' E' s' kk qq => wpAny_typeOf ⟨_, kk _ _ e2', rfl⟩ qq
              · refine kas_eval (n := xs.length) (c := fun i j => ltPair (ps.getD i (0, 0)) (ps.getD j (0, 0))) (a := p) (fun i j C hi hj hC => ?_) ?_ _ (by rw [hlen]; exact q4)
                · obtain ⟨m', a, c, t1', t2', g1, g2, g3, g4, g5⟩ := hat i hi
                  obtain ⟨m'', b, d, u1', u2', k1, k2, k3, k4, k5⟩ := hat j hj
                  have haL : a ≠ env.locals := fun q => I1.loc (q ▸ List.mem_of_getElem? g3)
                  have hbL : b ≠ env.locals := fun q => I1.loc (q ▸ List.mem_of_getElem? k3)
                  unfold kas_ask
                  rw [g1, k1]
                  rw [ltPair_eq] at hC
                  refine lt_pair (s := { s with heap := h2, toks := t1 }) ?_ (keep N' a _ haL (ne g4 g3) g5) (keep N' b _ hbL (ne k4 k3) k5) hC
                  exact hA.cline 1
                · refine KasFin.intro F' N' (.head cD) fun h3 c3 F3 N3 => ?_
                  have k1 := Post.on (s := s) (tk1 := t1) k I1 st1
                  have kk := keep N3
                  refine k1 .none h3 t1 σ1 (I1.updL F3.ns hm hz1 (getL_some q2) eD kk ⟨_, c3, (N3 _ (.head _)).1, ?_⟩) (Step.updL hz1 eD kk) .none
                  exact VRs.map fun i _ => e3.getD i
            · cases h
          · cases h
        · cases h
      · cases h
    · cases h
end
end Mine
end
section
open PySem PySem.Calls PyProof.Rows PySem.W PySem.SeqAt
namespace Mine
set_option maxRecDepth 10000
set_option autoImplicit false
set_option linter.unusedVariables false

section
variable {prog : Program} {w : World} {ρ : Nat → Int} {hb : Heap} {mg mb : Str → Option Value} {K : Orc} {P : List FnD} {r : Rec} {n : Nat} {nm : Nm} {env : Env} {fm fm1 : Fm} {H H' : List O} {σ : List Addr} {s : Shared} {A : Around} {E : Value → Shared → Prop}
variable {v : V}

theorem Inv.plainF (I : Inv ρ hb nm env fm H σ s.heap) : (env.scope.kind == .class || (env.scope.kind == .module && env.locals != env.globals)) = false := by rw [I.kind]; rfl
theorem Inv.kof (I : Inv ρ hb nm env fm H σ s.heap) {x : Str} {k : NameKind} (h : nm.lookup x = some k) : env.kindOf x = some k := by unfold Env.kindOf; rw [I.names]; exact h

theorem Inv.setN {h h' : Heap} {i : Nat} {x : Str} {m : Str → Option Value} {v' : Value} {u : V} (I : Inv ρ hb nm env fm H σ h) (hi : nm[i]? = some (x, .local)) (hv : VR ρ σ u v') (hm : SlRs ρ σ m env.cells nm fm.sl)
    (hn : h'.Ns env.locals (fun y => if y = x then some v' else m y)) (hs : Heap.SameBut env.locals h h') : Inv ρ hb nm env (setSl fm i u) H σ h' where
  kind := I.kind
  names := I.names
  glob := I.glob
  bt := I.bt
  base := fun b o e => (hs.2 b (fun q => by rw [q, I.lb] at e; cases e)).trans (I.base b o e)
  nd := I.nd
  ns := ⟨_, hn, hm.set hv I.nd hi⟩
  hr := ⟨I.hr.len, fun n o a e e' => by
    have := (I.hr.obj n o a e e').ext (τ := []) (h' := h') fun ob q => (hs.2 a (fun z => I.loc (z ▸ List.mem_of_getElem? e'))).trans q
    simpa using this⟩
  nodup := I.nodup
  loc := I.loc
  lb := I.lb
  mtb := I.mtb
  fzle := I.fzle

theorem S_store {x : Str} {i : Nat} {v' : Value} {Q : Unit → Shared → Prop} (I : Inv ρ hb nm env fm H σ s.heap) (h1 : nm[i]? = some (x, .local)) (h2 : nm.lookup x = some .local) (hv : VR ρ σ v v')
    (k : ∀ h' tk, s.toks ≤ tk → Inv ρ hb nm env (setSl fm i v) H σ h' → Step env fm.fz σ s.heap σ h' → Q () { s with heap := h', toks := tk }) : wpAny (model prog w) A (storeName env x v') Q E s := by
  obtain ⟨m, hn, hm⟩ := I.ns
  exact wpAny_storeName_local (I.kof h2) hn (fun h' hn' hs' => k h' _ (Nat.le_succ _) (I.setN h1 hv hm hn' hs') (Step.setL hs')) I.plainF

theorem S_putN {t : Tg} {x : Str} {p : Pos} {v' : Value} {Q : Unit → Shared → Prop} (tr : TR nm (.Name x p) t) (I : Inv ρ hb nm env fm H σ s.heap) (hv : VR ρ σ v v') (h : put fm H t v = some (fm1, H'))
    (k : ∀ h' tk, s.toks ≤ tk → fm1.fz = fm.fz → Inv ρ hb nm env fm1 H' σ h' → Step env fm.fz σ s.heap σ h' → Q () { s with heap := h', toks := tk }) : wpAny (model prog w) A (storeName env x v') Q E s := by
  cases tr with
  | loc _ _ i h1 h2 =>
    simp only [put] at h
    split at h
    · cases h
      exact S_store I h1 h2 hv fun h' tk ht I' st => k h' tk ht rfl I' st
    · cases h
  | cel _ _ i h1 h2 =>
    simp only [put] at h
    split at h
    · rename_i c q
      split at h
      · rename_i o q2
        split at h
        · rename_i hz
          cases h
          have hz' := Nat.le_of_ble_eq_true hz
          obtain ⟨m, hn, hm⟩ := I.ns
          obtain ⟨a, ea, ec⟩ := hm.get h1 q
          obtain ⟨a', e1, v0, e2, e3⟩ := I.hr.at q2
          rw [ea] at e1; cases e1
          exact wpAny_storeName_cell I.kind (I.kof h2) ec e2 fun h' hc hs => k h' s.toks (Nat.le_refl _) rfl (I.upd hz' q2 ea hs ⟨some v', hc, hv⟩) (Step.upd hz' ea hs)
        · cases h
      · cases h
    · cases h

theorem S_put {t : Tg} {e : PySem.Expr} {v' : Value} {Q : Unit → Shared → Prop} (tr : TR nm e t) (I : Inv ρ hb nm env fm H σ s.heap) (hv : VR ρ σ v v') (h : put fm H t v = some (fm1, H'))
    (k : ∀ h' tk, s.toks ≤ tk → fm1.fz = fm.fz → Inv ρ hb nm env fm1 H' σ h' → Step env fm.fz σ s.heap σ h' → Q () { s with heap := h', toks := tk }) : wpAny (model prog w) A (assign e env v') Q E s := by
  have tr' := tr
  cases tr' with
  | loc n p i h1 h2 => exact PyProof.Rows.assign_Name (S_putN tr I hv h k)
  | cel n p i h1 h2 => exact PyProof.Rows.assign_Name (S_putN tr I hv h k)
end
end Mine
end
section
open PySem PySem.Calls PyProof.Rows PySem.W PySem.SeqAt
namespace Mine
set_option maxRecDepth 10000
set_option autoImplicit false
set_option linter.unusedVariables false

section
variable {prog : Program} {w : World} {ρ : Nat → Int} {hb : Heap} {mg mb : Str → Option Value} {K : Orc} {P : List FnD} {r : Rec} {n : Nat} {nm : Nm} {env : Env} {fm fm1 : Fm} {H H' : List O} {σ : List Addr} {s : Shared} {A : Around} {E : Value → Shared → Prop}
variable {v u y : V}

theorem S_stoV {o' u' y' : Value} {Q : Unit → Shared → Prop} (I : Inv ρ hb nm env fm H σ s.heap) (ho : VR ρ σ v o') (hu : VR ρ σ u u') (hy : VR ρ σ y y') (h : stoV fm H v u y = some H')
    (k : ∀ h', Inv ρ hb nm env fm H' σ h' → Step env fm.fz σ s.heap σ h' → Q () { s with heap := h' }) : wpAny (model prog w) A (setItem o' u' y') Q E s := by
  unfold stoV at h
  split at h
  · split at h
    · rename_i xs q
      split at h
      · rename_i hz
        split at h
        · rename_i j qi
          cases h
          have hz' := Nat.le_of_ble_eq_true hz
          obtain ⟨a, ea, rfl⟩ := ho.refE
          obtain ⟨t, rfl⟩ := hu.intE
          obtain ⟨a', vs, c', e1, e2, e3⟩ := I.list q
          rw [ea] at e1; cases e1
          have hlen := e3.length
          obtain ⟨g1, g2, g3, g4, g5⟩ := idxI_spec qi
          have fin : ∀ f : Array Value → Array Value, f (List.toArray vs) = List.toArray (vs.set j y') → Q () { s with heap := s.heap.update a (Obj.mapSeq f) } := fun f hf => by
            obtain ⟨c2, hc2⟩ := upd_list e2 f hf
            exact k _ (I.upd hz' (getL_some q) ea (Heap.SameBut.update ..) ⟨_, c2, hc2, e3.set hy j⟩) (Step.upd hz' ea (Heap.SameBut.update ..))
          rcases g5 with ⟨g5, rfl⟩ | ⟨rfl, rfl, g6⟩
          · exact ki_setAt e2 g5 g3 (by rw [List.size_toArray, hlen]; omega) (fin _ (by simp))
          · refine ki_setBack e2 (by decide) (by rw [List.size_toArray, hlen]; omega) g2 (fin _ ?_)
            have : ((-1 : Int) + (List.toArray vs).size).toNat = xs.length - 1 := by rw [List.size_toArray, hlen]; omega
            rw [this]; simp
        · cases h
      · cases h
    · cases h
  · cases h

theorem seqOf_refE {xs : List V} (h : seqOf H v = some xs) : ∃ c, v = .ref c := by
  cases v <;> simp [seqOf] at h
  exact ⟨_, rfl⟩

theorem S_unpack {v' : Value} {xs : List V} {k : Nat} {Q : List Value → Shared → Prop} (hh : A.handled = none) (I : Inv ρ hb nm env fm H σ s.heap) (hv : VR ρ σ v v') (h : seqOf H v = some xs) (hk : k = xs.length)
    (g : ∀ vs h', VRs ρ σ xs vs → (∀ b o, s.heap.get? b = some o → h'.get? b = some o) → Q vs { s with heap := h' }) : wpAny (model prog w) A (unpackItems v' k none) Q E s := by
  obtain ⟨c, rfl⟩ := seqOf_refE h
  obtain ⟨a, ea, rfl⟩ := hv.refE
  have keep : ∀ h', Heap.ExtBut s.heap.objs.size s.heap h' → ∀ b o, s.heap.get? b = some o → h'.get? b = some o := fun h' x b o e => x b o (Nat.ne_of_lt (Heap.lt_size e)) e
  rcases seqOf_ref h with q | q
  · obtain ⟨a', e1, vs, c', e2, e3⟩ := I.hr.at q
    rw [ea] at e1; cases e1
    have hl : k = (List.toArray vs).size := by rw [List.size_toArray, e3.length, hk]
    subst hl
    exact kun_itemsOf hh (isList_of e2) fun h' x => g vs h' e3 (keep h' x)
  · obtain ⟨a', e1, vs, c', e2, e3⟩ := I.hr.at q
    rw [ea] at e1; cases e1
    have hl : k = (List.toArray vs).size := by rw [List.size_toArray, e3.length, hk]
    subst hl
    exact unpackItems_tuple hh ⟨_, e2, rfl, _, rfl⟩ fun h' x => g vs h' e3 (keep h' x)

theorem S_puts {ts : List Tg} {es : List PySem.Expr} (tr : TRs nm es ts) : ∀ {fm fm1 : Fm} {H H' : List O} {s : Shared} {vs : List V} {vs' : List Value} {Q : Unit → Shared → Prop}, Inv ρ hb nm env fm H σ s.heap → VRs ρ σ vs vs' → puts fm H ts vs = some (fm1, H') →
    (∀ h' tk, s.toks ≤ tk → fm1.fz = fm.fz → Inv ρ hb nm env fm1 H' σ h' → Step env fm.fz σ s.heap σ h' → Q () { s with heap := h', toks := tk }) → wpAny (model prog w) A (assignInOrder ((assignEach es env).map (·.2)) vs') Q E s := by
  induction tr with
  | nil =>
    intro fm fm1 H H' s vs vs' Q I hv h k
    cases vs with
    | nil =>
      cases hv
      simp only [puts, Option.some.injEq, Prod.mk.injEq] at h
      obtain ⟨rfl, rfl⟩ := h
      exact wpAny_assignInOrder_none (k s.heap s.toks (Nat.le_refl _) rfl I Step.refl)
    | cons _ _ => simp [puts] at h
  | @cons e t es ts h1 h2 ih =>
    intro fm fm1 H H' s vs vs' Q I hv h k
    cases hv with
    | nil => simp [puts] at h
    | cons hv1 hv2 =>
      simp only [puts] at h
      split at h
      · rename_i fm2 H2 q
        have he : (assignEach (e :: es) env).map (·.2) = assign e env :: (assignEach es env).map (·.2) := by
          cases h1 <;> rfl
        rw [he]
        refine wpAny_assignInOrder_more (S_put h1 I hv1 q fun h' tk htk hf I' st => ?_)
        refine ih (s := { s with heap := h', toks := tk }) I' hv2 h fun h'' tk' htk' hf' I'' st' => ?_
        rw [hf] at st'
        have st0 : Step env fm2.fz σ s.heap σ h' := by rw [hf]; exact st
        have st1 : Step env fm2.fz σ h' σ h'' := by rw [hf]; exact st'
        have st2 := Step.trans I' st0 st1
        rw [hf] at st2
        exact k h'' tk' (Nat.le_trans htk htk') (hf'.trans hf) I'' st2
      · cases h

theorem S_putsN {ts : List Tg} {ns : List Str} (tr : NRs nm ns ts) : ∀ {fm fm1 : Fm} {H H' : List O} {s : Shared} {vs : List V} {vs' : List Value} {Q : Unit → Shared → Prop}, Inv ρ hb nm env fm H σ s.heap → VRs ρ σ vs vs' → puts fm H ts vs = some (fm1, H') →
    (∀ h' tk, s.toks ≤ tk → fm1.fz = fm.fz → Inv ρ hb nm env fm1 H' σ h' → Step env fm.fz σ s.heap σ h' → Q () { s with heap := h', toks := tk }) → wpAny (model prog w) A (assignInOrder (ns.map fun n => bindName env n) vs') Q E s := by
  induction tr with
  | nil =>
    intro fm fm1 H H' s vs vs' Q I hv h k
    cases vs with
    | nil =>
      cases hv
      simp only [puts, Option.some.injEq, Prod.mk.injEq] at h
      obtain ⟨rfl, rfl⟩ := h
      exact wpAny_assignInOrder_none (k s.heap s.toks (Nat.le_refl _) rfl I Step.refl)
    | cons _ _ => simp [puts] at h
  | @cons nn i ns ts h1 h2 _ ih =>
    intro fm fm1 H H' s vs vs' Q I hv h k
    cases hv with
    | nil => simp [puts] at h
    | @cons v _ vs _ hv1 hv2 =>
      simp only [puts] at h
      split at h
      · rename_i fm2 H2 q
        simp only [put] at q
        split at q
        · cases q
          rw [List.map_cons]
          refine wpAny_assignInOrder_more (wpAny_bindName (S_store I h1 h2 hv1 fun h' tk htk I' st => ?_))
          refine ih (s := { s with heap := h', toks := tk }) I' hv2 h fun h'' tk' htk' hf' I'' st' => ?_
          have st0 : Step env (setSl fm i v).fz σ s.heap σ h' := st
          have st2 := Step.trans I' st0 st'
          exact k h'' tk' (Nat.le_trans htk htk') hf' I'' st2
        · cases q
      · cases h

theorem NRs.snoc {ns : List Str} {ts : List Tg} {x : Str} {i : Nat} (h : NRs nm ns ts) (h1 : nm[i]? = some (x, .local)) (h2 : nm.lookup x = some .local) : NRs nm (ns ++ [x]) (ts ++ [.loc i]) := by
  induction h with
  | nil => exact .cons h1 h2 .nil
  | cons a b _ ih => exact .cons a b ih
theorem NRs.reverse {ns : List Str} {ts : List Tg} (h : NRs nm ns ts) : NRs nm ns.reverse ts.reverse := by
  induction h with
  | nil => exact .nil
  | cons a b _ ih => rw [List.reverse_cons, List.reverse_cons]; exact ih.snoc a b
theorem NRs.length {ns : List Str} {ts : List Tg} (h : NRs nm ns ts) : ns.length = ts.length := by
  induction h with
  | nil => rfl
  | cons a b _ ih => simp [ih]
theorem TRs.length {es : List PySem.Expr} {ts : List Tg} (h : TRs nm es ts) : (assignEach es env).length = ts.length ∧ (assignEach es env).findIdx? (·.1) = none := by
  induction h with
  | nil => exact ⟨rfl, rfl⟩
  | @cons e t es ts h1 _ ih =>
    have he : assignEach (e :: es) env = (false, assign e env) :: assignEach es env := by cases h1 <;> rfl
    rw [he]
    exact ⟨by simp [ih.1], by simp [List.findIdx?_cons, ih.2]⟩
theorem puts_len : ∀ {ts : List Tg} {vs : List V} {fm fm1 : Fm} {H H' : List O}, puts fm H ts vs = some (fm1, H') → ts.length = vs.length
  | [], [], _, _, _, _, _ => rfl
  | [], _ :: _, _, _, _, _, h => by simp [puts] at h
  | _ :: _, [], _, _, _, _, h => by simp [puts] at h
  | t :: ts, v :: vs, fm, fm1, H, H', h => by
    simp only [puts] at h
    split at h
    · simp [puts_len h]
    · cases h
end
end Mine
end
section
open PySem PySem.Calls PyProof.Rows PySem.W PySem.SeqAt
namespace Mine
set_option maxRecDepth 10000
set_option autoImplicit false
set_option linter.unusedVariables false

section
variable {prog : Program} {w : World} {ρ : Nat → Int} {hb : Heap} {mg mb : Str → Option Value} {K : Orc} {P : List FnD} {r : Rec} {n : Nat} {nm : Nm} {env : Env} {fm fm1 : Fm} {H H' : List O} {σ : List Addr} {s : Shared} {A : Around} {E : Value → Shared → Prop}
variable {v u y : V} {Q : Flow → Shared → Prop} {o : R}

theorem PostS.plain {f : Flow} {h' : Heap} {tk : Nat} {H1 : List O} {σ1 : List Addr} (k : PostS ρ hb nm env fm σ s H' fm1 o Q) (hf : fm1.fz = fm.fz) (I : Inv ρ hb nm env fm1 H' σ1 h') (st : Step env fm.fz σ s.heap σ1 h') (hr : RR ρ σ1 o f) : Q f { s with heap := h', toks := tk } := k f h' tk σ1 hf I st hr

theorem S_asg (IH : Sound prog w ρ hb r n) (hA : OkA n A) (ht : 1 ≤ s.toks) {e : PySem.Expr} {x : Str} {p q : Pos} {t : Tg} {c : X} (hs : ∀ env : Env, env.scope.names = nm → env.scope.kind = .function → swapsWith e (some (.Name x q)) p.line env = pure false) (tr : TR nm (.Name x q) t) (ce : CE nm e c)
    (I : Inv ρ hb nm env fm H σ s.heap) (h : stF r fm H (.asg t c) = some (o, fm1, H')) (k : PostS ρ hb nm env fm σ s H' fm1 o Q) : wpAny (model prog w) A (exec (.Assign [.Name x q] e p) env) Q E s := by
  simp only [stF] at h
  split at h
  · rename_i v H1 q1
    split at h
    · rename_i fm2 H2 q2
      cases h
      rw [exec_Assign_Name (hs := hs env I.names I.kind)]
      refine wpAny_bind (wpAny_standAt (wpAny_bind (IH.ev hA ht ce I q1 fun v' h1 t1 σ1 I1 st1 hv ht1 => wpAny_bind (wpAny_standAt (wpAny_bind (wpAny_bindName ?_))))))
      exact S_putN (s := { s with heap := h1, toks := t1 }) tr I1 hv q2 fun h' tk _ hf I' st => wpAny_pure (k .next h' tk σ1 hf I' (Step.trans I1 st1 st) trivial)
    · cases h
  · cases h

theorem sw_tuple {ts : List PySem.Expr} {k : Nat} {q : Pos} {e : PySem.Expr} {l : Nat} : swapsWithSole [.Tuple ts k q] e l env = pure false := by
  show swapsWith e (some (.Tuple ts k q)) l env = pure false
  cases e <;> rfl
theorem sw_none {ts : List PySem.Expr} {k : Nat} {q : Pos} {e : PySem.Expr} (h : isTupE e = false) : swappedStores [.Tuple ts k q] e env = pure none := by
  cases e <;> first | rfl | (simp [isTupE] at h)

theorem S_asgT (IH : Sound prog w ρ hb r n) (hA : OkA n A) (ht : 1 ≤ s.toks) {e : PySem.Expr} {ts : List PySem.Expr} {kk : Nat} {p q : Pos} {tgs : List Tg} {c : X} (hc : isTupE e = false) (tr : TRs nm ts tgs) (ce : CE nm e c)
    (I : Inv ρ hb nm env fm H σ s.heap) (h : stF r fm H (.asgT tgs c) = some (o, fm1, H')) (k : PostS ρ hb nm env fm σ s H' fm1 o Q) : wpAny (model prog w) A (exec (.Assign [.Tuple ts kk q] e p) env) Q E s := by
  simp only [stF] at h
  split at h
  · rename_i v H1 q1
    split at h
    · rename_i vs q2
      split at h
      · rename_i fm2 H2 q3
        cases h
        refine Assign_Tuple (IH.ev hA ht ce I q1 fun v' h1 t1 σ1 I1 st1 hv ht1 => ?_) sw_tuple (sw_none hc)
        rw [assign_Tuple]
        refine wpAny_bind (wpAny_standAt ?_)
        unfold unpack
        obtain ⟨l1, l2⟩ := tr.length (env := env)
        rw [l2, l1]
        refine wpAny_bind (wpAny_holding (S_unpack (s := { s with heap := h1, toks := t1 }) hA.1 I1 hv q2 (puts_len q3) fun vs' h2 hvs hk => ?_))
        have I2 := I1.kept hk
        refine S_puts (s := { s with heap := h2, toks := t1 }) tr I2 hvs q3 fun h' tk _ hf I' st => ?_
        exact k .next h' tk σ1 hf I' (Step.trans I1 st1 (Step.trans I2 (Step.kept hk) st)) trivial
      · cases h
    · cases h
  · cases h

theorem VRs_reverse_len {xs : List V} {vs : List Value} (h : VRs ρ σ xs vs) : VRs ρ σ xs.reverse vs.reverse := h.reverse

theorem S_asgW (IH : Sound prog w ρ hb r n) (hA : OkA n A) (ht : 1 ≤ s.toks) {es ts : List PySem.Expr} {kk k' : Nat} {p q q' : Pos} {tgs : List Tg} {c : X} (ns : List Str)
    (hs : ∀ env : Env, env.scope.names = nm → env.scope.kind = .function → swappedStores [.Tuple ts kk q] (.Tuple es k' q') env = pure (some ns)) (tr : NRs nm ns tgs) (ce : CE nm (.Tuple es k' q') c)
    (I : Inv ρ hb nm env fm H σ s.heap) (h : stF r fm H (.asgW tgs c) = some (o, fm1, H')) (k : PostS ρ hb nm env fm σ s H' fm1 o Q) : wpAny (model prog w) A (exec (.Assign [.Tuple ts kk q] (.Tuple es k' q') p) env) Q E s := by
  simp only [stF] at h
  split at h
  · rename_i v H1 q1
    split at h
    · rename_i vs q2
      split at h
      · rename_i hz
        split at h
        · rename_i fm2 H2 q3
          cases h
          have hz' := Nat.eq_of_beq_eq_true hz
          refine Assign_Tuple_swapped (names := ns) (IH.ev hA ht ce I q1 fun v' h1 t1 σ1 I1 st1 hv ht1 => ?_) sw_tuple (hs env I.names I.kind)
          refine S_unpack (s := { s with heap := h1, toks := t1 }) hA.1 I1 hv q2 (tr.length.trans hz') fun vs' h2 hvs hk => ?_
          have I2 := I1.kept hk
          refine S_putsN (s := { s with heap := h2, toks := t1 }) tr.reverse I2 hvs.reverse q3 fun h' tk _ hf I' st => ?_
          exact k .next h' tk σ1 hf I' (Step.trans I1 st1 (Step.trans I2 (Step.kept hk) st)) trivial
        · cases h
      · cases h
    · cases h
  · cases h

theorem sw_sub {a i : PySem.Expr} {q : Pos} {e : PySem.Expr} {l : Nat} : swapsWith e (some (.Subscript a i q)) l env = pure false := by
  cases e <;> rfl

theorem S_sto (IH : Sound prog w ρ hb r n) (hA : OkA n A) (ht : 1 ≤ s.toks) {e a i : PySem.Expr} {p q : Pos} {x y z : X} (c0 : CE nm a x) (c1 : CE nm i y) (c2 : CE nm e z)
    (I : Inv ρ hb nm env fm H σ s.heap) (h : stF r fm H (.sto x y z) = some (o, fm1, H')) (k : PostS ρ hb nm env fm σ s H' fm1 o Q) : wpAny (model prog w) A (exec (.Assign [.Subscript a i q] e p) env) Q E s := by
  simp only [stF] at h
  split at h
  · rename_i v H1 q1
    split at h
    · rename_i ov H2 q2
      split at h
      · rename_i iv H3 q3
        split at h
        · rename_i H4 q4
          cases h
          refine wpAny_Assign_Subscript (IH.ev hA ht c2 I q1 fun v' h1 t1 σ1 I1 st1 hv ht1 => ?_) sw_sub
          refine IH.ev (s := { s with heap := h1, toks := t1 }) hA ht1 c0 I1 q2 fun o' h2 t2 σ2 I2 st2 ho ht2 => ?_
          refine IH.ev (s := { s with heap := h2, toks := t2 }) hA ht2 c1 I2 q3 fun i' h3 t3 σ3 I3 st3 hi ht3 => ?_
          have ho' : VR ρ σ3 ov o' := by obtain ⟨τ, rfl, _⟩ := st3.ext; exact ho.ext
          have hv' : VR ρ σ3 v v' := by obtain ⟨τ, rfl, _⟩ := st3.ext; obtain ⟨τ', rfl, _⟩ := st2.ext; exact hv.ext.ext
          refine S_stoV (s := { s with heap := h3, toks := t3 }) I3 ho' hi hv' q4 fun h' I' st => ?_
          exact k .next h' t3 σ3 rfl I' (Step.trans I3 (Step.trans I2 (Step.trans I1 st1 st2) st3) st) trivial
        · cases h
      · cases h
    · cases h
  · cases h

theorem S_aug (IH : Sound prog w ρ hb r n) (hA : OkA n A) (ht : 1 ≤ s.toks) {e : PySem.Expr} {x : Str} {p q : Pos} {i : Nat} {c : X} (h1 : nm[i]? = some (x, .local)) (h2 : nm.lookup x = some .local) (ce : CE nm e c)
    (I : Inv ρ hb nm env fm H σ s.heap) (h : stF r fm H (.aug i c) = some (o, fm1, H')) (k : PostS ρ hb nm env fm σ s H' fm1 o Q) : wpAny (model prog w) A (exec (.AugAssign (.Name x q) .Add e p) env) Q E s := by
  simp only [stF] at h
  split at h
  · rename_i a q0
    split at h
    · rename_i b H1 q1
      cases h
      rw [exec_AugAssign_Name]
      refine wpAny_bind (wpAny_standAt (wpAny_bind (I.locV h1 h2 q0 fun a' ha => wpAny_bind (wpAny_holding (IH.ev hA ht ce I q1 fun b' h' t1 σ1 I1 st1 hb' ht1 => wpAny_bind (wpAny_standAt (wpAny_bind ?_)))))))
      obtain ⟨t, rfl⟩ := ha.intE
      obtain ⟨t', rfl⟩ := hb'.intE
      refine wpAny_operating (wpAny_iadd_int ?_)
      refine wpAny_bind (wpAny_standAt (wpAny_bind (wpAny_bindName ?_)))
      exact S_store (s := { s with heap := h', toks := t1 + 1 }) I1 h1 h2 (.int _ _) fun h'' tk _ I' st => wpAny_pure (k .next h'' tk σ1 rfl I' (Step.trans I1 st1 st) trivial)
    · cases h
  · cases h

theorem S_augs (IH : Sound prog w ρ hb r n) (hA : OkA n A) (ht : 1 ≤ s.toks) {e a i : PySem.Expr} {p q : Pos} {x y z : X} (hi0 : isSliceE i = false) (c0 : CE nm a x) (c1 : CE nm i y) (c2 : CE nm e z)
    (I : Inv ρ hb nm env fm H σ s.heap) (h : stF r fm H (.augs x y z) = some (o, fm1, H')) (k : PostS ρ hb nm env fm σ s H' fm1 o Q) : wpAny (model prog w) A (exec (.AugAssign (.Subscript a i q) .Add e p) env) Q E s := by
  simp only [stF] at h
  split at h
  · rename_i ov H1 q1
    split at h
    · rename_i iv H2 q2
      split at h
      · rename_i a q3
        split at h
        · rename_i b H3 q4
          split at h
          · rename_i H4 q5
            cases h
            refine wpAny_AugAssign_Subscript_any (IH.ev hA ht c0 I q1 fun o' h1 t1 σ1 I1 st1 ho ht1 => ?_) ?_
            · refine IH.ev (s := { s with heap := h1, toks := t1 }) hA ht1 c1 I1 q2 fun i' h2 t2 σ2 I2 st2 hi ht2 => ?_
              have ho2 : VR ρ σ2 ov o' := by obtain ⟨τ, rfl, _⟩ := st2.ext; exact ho.ext
              refine wpAny_with_toks (n := 1) ht2 ?_
              refine (S_subV (s := { s with heap := h2, toks := t2 }) I2 ho2 hi q3 fun y' tk hy hge => ?_).2
              obtain ⟨t, rfl⟩ := hy.intE
              refine IH.ev (s := { s with heap := h2, toks := tk }) hA hge c2 I2 q4 fun b' h3 t3 σ3 I3 st3 hb' ht3 => ?_
              obtain ⟨t', rfl⟩ := hb'.intE
              refine wpAny_iadd_int ?_
              have ho3 : VR ρ σ3 ov o' := by obtain ⟨τ, rfl, _⟩ := st3.ext; exact ho2.ext
              have hi3 : VR ρ σ3 iv i' := by obtain ⟨τ, rfl, _⟩ := st3.ext; exact hi.ext
              refine S_stoV (s := { s with heap := h3, toks := t3 + 1 }) I3 ho3 hi3 (.int _ _) q5 fun h' I' st => ?_
              exact k .next h' (t3 + 1) σ3 rfl I' (Step.trans I3 (Step.trans I2 (Step.trans I1 st1 st2) st3) st) trivial
            · intro ov iv new
              cases i <;> first | rfl | (simp [isSliceE] at hi0)
          · cases h
        · cases h
      · cases h
    · cases h
  · cases h

theorem S_exp (IH : Sound prog w ρ hb r n) (hA : OkA n A) (ht : 1 ≤ s.toks) {e : PySem.Expr} {p : Pos} {c : X} (hc : isCompE e = false) (ce : CE nm e c)
    (I : Inv ρ hb nm env fm H σ s.heap) (h : stF r fm H (.exp c) = some (o, fm1, H')) (k : PostS ρ hb nm env fm σ s H' fm1 o Q) : wpAny (model prog w) A (exec (.Expr e p) env) Q E s := by
  simp only [stF] at h
  split at h
  · rename_i v H1 q1
    cases h
    refine wpAny_Expr_any (IH.ev hA ht ce I q1 fun v' h1 t1 σ1 I1 st1 hv ht1 => k .next h1 t1 σ1 rfl I1 st1 trivial) ?_ ?_
    · unfold interactive
      rw [I.kind]; rfl
    · cases e <;> first | rfl | (simp [isCompE] at hc)
  · cases h

theorem S_ret (IH : Sound prog w ρ hb r n) (hA : OkA n A) (ht : 1 ≤ s.toks) {e : PySem.Expr} {p : Pos} {c : X} (ce : CE nm e c)
    (I : Inv ρ hb nm env fm H σ s.heap) (h : stF r fm H (.ret c) = some (o, fm1, H')) (k : PostS ρ hb nm env fm σ s H' fm1 o Q) : wpAny (model prog w) A (exec (.Return (some e) p) env) Q E s := by
  simp only [stF] at h
  split at h
  · rename_i v H1 q1
    cases h
    rw [exec_Return_some]
    exact wpAny_bind (wpAny_standAt (wpAny_bind (IH.ev hA ht ce I q1 fun v' h1 t1 σ1 I1 st1 hv ht1 => wpAny_pure (k (.ret v') h1 t1 σ1 rfl I1 st1 hv))))
  · cases h

theorem stL_sound (IH : Sound prog w ρ hb r n) (hA : OkA n A) {l : List PySem.Stmt} {xs : List S} (c : CSts nm l xs) : ∀ {fm fm1 : Fm} {H H' : List O} {σ : List Addr} {s : Shared} {o : R} {Q : Flow → Shared → Prop},
    1 ≤ s.toks → Inv ρ hb nm env fm H σ s.heap → stL r fm H xs = some (o, fm1, H') → PostS ρ hb nm env fm σ s H' fm1 o (PT Q) → wpAny (model prog w) A (execs l env) Q E s := by
  induction l generalizing xs with
  | nil =>
    intro fm fm1 H H' σ s o Q ht I h k
    cases c
    simp only [stL, Option.some.injEq, Prod.mk.injEq] at h
    obtain ⟨rfl, rfl, rfl⟩ := h
    exact wpAny_execs_nil (k .next s.heap s.toks σ rfl I Step.refl trivial ht)
  | cons e es ih =>
    intro fm fm1 H H' σ s o Q ht I h k
    cases c with
    | @cons _ x _ xs h1 h2 =>
      simp only [stL] at h
      split at h
      · rename_i fm2 H2 q
        refine wpAny_execs_cons (IH.st hA ht h1 I q fun f h' tk σ' hf I' st hr ht' => ?_)
        cases f <;> first | exact hr.elim | skip
        exact ih (s := { s with heap := h', toks := tk }) h2 ht' I' h (PostS.on (s := s) k hf I' st)
      · rename_i v fm2 H2 q
        cases h
        refine wpAny_execs_cons (IH.st hA ht h1 I q fun f h' tk σ' hf I' st hr ht' => ?_)
        cases f <;> first | exact hr.elim | skip
        exact k _ h' tk σ' hf I' st hr ht'
      · cases h

theorem S_ifs (IH : Sound prog w ρ hb r n) (hA : OkA n A) (ht : 1 ≤ s.toks) {t : PySem.Expr} {a b : List PySem.Stmt} {p : Pos} {x : X} {y z : List S} (c0 : CE nm t x) (c1 : CSts nm a y) (c2 : CSts nm b z)
    (I : Inv ρ hb nm env fm H σ s.heap) (h : stF r fm H (.ifs x y z) = some (o, fm1, H')) (k : PostS ρ hb nm env fm σ s H' fm1 o (PT Q)) : wpAny (model prog w) A (exec (.If t a b p) env) Q E s := by
  simp only [stF] at h
  split at h
  · rename_i H1 q1
    rw [exec_If]
    refine wpAny_bind (wpAny_standAt (wpAny_bind (IH.ts hA ht c0 I q1 fun h1 t1 σ1 I1 st1 ht1 => ?_)))
    rw [if_pos rfl]
    exact stL_sound (s := { s with heap := h1, toks := t1 }) IH hA c1 ht1 I1 h (PostS.on (s := s) k rfl I1 st1)
  · rename_i H1 q1
    rw [exec_If]
    refine wpAny_bind (wpAny_standAt (wpAny_bind (IH.ts hA ht c0 I q1 fun h1 t1 σ1 I1 st1 ht1 => ?_)))
    rw [if_neg Bool.false_ne_true]
    exact stL_sound (s := { s with heap := h1, toks := t1 }) IH hA c2 ht1 I1 h (PostS.on (s := s) k rfl I1 st1)
  · cases h
end
end Mine
end
section
open PySem PySem.Calls PyProof.Rows PySem.W PySem.SeqAt
namespace Mine
set_option maxRecDepth 10000
set_option autoImplicit false
set_option linter.unusedVariables false

def ItR (σ : List Addr) (h : Heap) (it jt : Addr) : It → Prop
  | .rng a n => jt = it ∧ IsRangeIter h it a n 1
  | .lst m i => jt = it ∧ ∃ l, σ[m]? = some l ∧ h.IsListIter it l i
  | .enm m i => it ≠ jt ∧ ∃ l old, σ[m]? = some l ∧ IsEnum h it jt i old ∧ h.IsListIter jt l i

structure OwnX (hb h0 : Heap) (env : Env) (σ : List Addr) (X : List Addr) : Prop where
  s : ∀ x ∈ X, x ∉ σ
  loc : env.locals ∉ X
  b : ∀ x ∈ X, hb.get? x = none
  h0 : ∀ x ∈ X, h0.get? x = none

section
variable {ρ : Nat → Int} {hb h0 : Heap} {nm : Nm} {env : Env} {fm : Fm} {H : List O} {σ σ0 : List Addr} {h h' : Heap} {X : List Addr}
theorem Inv.keptX (I : Inv ρ hb nm env fm H σ h) (ox : OwnX hb h0 env σ X) (hk : ∀ b o, b ∉ X → h.get? b = some o → h'.get? b = some o) : Inv ρ hb nm env fm H σ h' :=
  { I with
    base := fun b o e => hk b o (fun q => by rw [ox.b b q] at e; cases e) (I.base b o e)
    ns := let ⟨m, a, b⟩ := I.ns; ⟨m, a.at fun o e => hk _ o ox.loc e, b⟩
    hr := ⟨I.hr.len, fun n o a e e' => by have := (I.hr.obj n o a e e').ext (τ := []) fun ob q => hk a ob (fun z => ox.s a z (List.mem_of_getElem? e')) q; simpa using this⟩ }
theorem Step.keptX {fz : Nat} (st : Step env fz σ0 h0 σ h) (ox : OwnX hb h0 env σ X) (hk : ∀ b o, b ∉ X → h.get? b = some o → h'.get? b = some o) : Step env fz σ0 h0 σ h' :=
  ⟨st.ext, fun b o hL hM e => hk b o (fun q => by rw [ox.h0 b q] at e; cases e) (st.keep b o hL hM e)⟩
end

section
variable {prog : Program} {w : World} {ρ : Nat → Int} {hb h0 : Heap} {mg mb : Str → Option Value} {K : Orc} {P : List FnD} {r : Rec} {n : Nat} {nm : Nm} {env : Env} {fm fm1 : Fm} {H H' : List O} {σ σ0 : List Addr} {s : Shared} {A : Around} {E : Value → Shared → Prop}
variable {v : V} {u : Option V} {it jt : Addr} {I0 I1 : It}

theorem S_next_end {Q : Option Value → Shared → Prop} (hh : A.handled = none) (I : Inv ρ hb nm env fm H σ s.heap) (hi : ItR σ s.heap it jt I0) (h : nextI H I0 = some (none, u, I1))
    (k : ∀ h', (∀ b o, b ∉ [it, jt] → s.heap.get? b = some o → h'.get? b = some o) → Q none { s with heap := h' }) : wpAny (model prog w) A (pyNext (.ref it)) Q E s := by
  have kk : ∀ {x : Addr} {h' : Heap}, x ∈ [it, jt] → Heap.ExtBut x s.heap h' → ∀ b o, b ∉ [it, jt] → s.heap.get? b = some o → h'.get? b = some o := fun hx e b o hb q => e b o (fun z => hb (z ▸ hx)) q
  cases I0 with
  | rng a n =>
    cases n with
    | zero => exact wpAny_pyNext_range_end hh hi.2 (by simp) fun h' e => k h' (kk (by simp) e)
    | succ n => simp [nextI] at h
  | lst m i =>
    simp only [nextI] at h
    split at h
    · rename_i xs q
      split at h
      · cases h
      · rename_i q2
        obtain ⟨hj, l, el, hit⟩ := hi
        obtain ⟨a', vs, c, e1, e2, e3⟩ := I.list q
        rw [el] at e1; cases e1
        have hx : (List.toArray vs)[i]? = none := by
          have := e3.length
          simp at q2 ⊢; omega
        exact wpAny_pyNext_list_end hh hit (isList_of e2) hx fun h' e => k h' (kk (by simp) e)
    · cases h
  | enm m i =>
    simp only [nextI] at h
    split at h
    · rename_i xs q
      split at h
      · cases h
      · rename_i q2
        obtain ⟨hne, l, old, el, he, hit⟩ := hi
        obtain ⟨a', vs, c, e1, e2, e3⟩ := I.list q
        rw [el] at e1; cases e1
        have hx : (List.toArray vs)[i]? = none := by
          have := e3.length
          simp at q2 ⊢; omega
        exact wpAny_pyNext_enum_end hh he hit (isList_of e2) hx fun h' e => k h' (kk (by simp) e)
    · cases h

theorem go_name {t : Tg} {e : PySem.Expr} (tr : TR nm e t) (x y : Value) : letOwnedTupleGo e x y = pure () := by cases tr <;> rfl

theorem ItR.kept {h h' : Heap} (x : ItR σ h it jt I0) (hk : ∀ b o, b ∈ [it, jt] → h.get? b = some o → h'.get? b = some o) (τ : List Addr) : ItR (σ ++ τ) h' it jt I0 := by
  cases I0 with
  | rng a n => exact ⟨x.1, hk it _ (by simp) x.2⟩
  | lst m i => obtain ⟨hj, l, el, hit⟩ := x; exact ⟨hj, l, get_ext el, hit.at fun o e => hk it o (by simp) e⟩
  | enm m i => obtain ⟨hne, l, old, el, he, hit⟩ := x; exact ⟨hne, l, old, get_ext el, hk it _ (by simp) he, hit.at fun o e => hk jt o (by simp) e⟩
theorem ItR.live {h : Heap} (x : ItR σ h it jt I0) : ∀ y ∈ [it, jt], ∃ o, h.get? y = some o := by
  cases I0 with
  | rng a n => obtain ⟨rfl, x⟩ := x; intro y hy; simp at hy; subst hy; exact ⟨_, x⟩
  | lst m i => obtain ⟨rfl, l, el, o, ho, _⟩ := x; intro y hy; simp at hy; subst hy; exact ⟨o, ho⟩
  | enm m i =>
    obtain ⟨hne, l, old, el, he, o, ho, _⟩ := x
    intro y hy
    simp at hy
    rcases hy with rfl | rfl
    · exact ⟨_, he⟩
    · exact ⟨o, ho⟩

theorem S_turn {N : Shared → Prop} {B : Shared → Prop} {tg : List Tg} {pair : Bool} {target : PySem.Expr} (hh : A.handled = none) (tp : TP nm target tg pair) (I : Inv ρ hb nm env fm H σ s.heap) (hi : ItR σ s.heap it jt I0)
    (ox : OwnX hb h0 env σ [it, jt]) (st0 : Step env fm.fz σ0 h0 σ s.heap) (h : nextI H I0 = some (some v, u, I1)) (hp : putI fm H tg pair v u = some (fm1, H'))
    (k : ∀ h' tk, s.toks ≤ tk → fm1.fz = fm.fz → Inv ρ hb nm env fm1 H' σ h' → Step env fm.fz σ0 h0 σ h' → ItR σ h' it jt I1 → B { s with heap := h', toks := tk }) :
    wpAny (model prog w) A (pyNext (.ref it)) (fun r s₁ => match r with
      | none => N s₁
      | some v => wpAny (model prog w) A (letOwnedTupleGo target (.ref it) v) (fun _ s' => wpAny (model prog w) A (assign target env v) (fun _ s₂ => B s₂) E s') E s₁) E s := by
  have live : ∃ o, s.heap.get? it = some o := hi.live it (.head _)
  -- what follows the store of the drawn value
  have after : ∀ {h1 h2 : Heap} {I2 : Inv ρ hb nm env fm H σ h1} {fm' : Fm} {Hn : List O}, ItR σ h1 it jt I1 → Step env fm.fz σ h1 σ h2 → ItR σ h2 it jt I1 := fun {h1 h2 _ _ _} hit st => by
    have := hit.kept (h' := h2) (fun b o hb e => st.keep b o (fun z => ox.loc (z ▸ hb)) (fun n _ q => ox.s b hb (List.mem_of_getElem? q)) e) []
    simpa using this
  have fin : ∀ {h1 : Heap} {tk1 : Nat} {t : Tg} {e : PySem.Expr} {v' : Value} {Q : Unit → Shared → Prop}, TR nm e t → Inv ρ hb nm env fm H σ h1 → VR ρ σ v v' → put fm H t v = some (fm1, H') → Step env fm.fz σ0 h0 σ h1 → ItR σ h1 it jt I1 → s.toks ≤ tk1 →
      wpAny (model prog w) A (assign e env v') (fun _ s₂ => B s₂) E { s with heap := h1, toks := tk1 } := fun {h1 tk1 t e v' Q} tr I2 hv hq st hit hle =>
    S_put (s := { s with heap := h1, toks := tk1 }) tr I2 hv hq fun h' tk htk hf I3 st2 => k h' tk (Nat.le_trans hle htk) hf I3 (Step.trans I2 st st2) (after (I2 := I2) (fm' := fm1) (Hn := H') hit st2)
  cases I0 with
  | rng a n =>
    cases n with
    | zero => simp [nextI] at h
    | succ n =>
      simp only [nextI, Option.some.injEq, Prod.mk.injEq] at h
      obtain ⟨rfl, rfl, rfl⟩ := h
      refine wpAny_pyNext_range_item hi.2 (by omega) fun h1 hit1 hs1 => ?_
      have hk : ∀ b o, b ∉ [it, jt] → s.heap.get? b = some o → h1.get? b = some o := fun b o hb e => (hs1.2 b (fun z => hb (by simp [z]))).trans e
      have I2 := I.keptX ox hk
      have st2 := st0.keptX ox hk
      cases tp with
      | one tr =>
        simp only [putI] at hp
        show wpAny _ _ (letOwnedTupleGo _ _ _) _ _ _
        rw [go_name tr]
        refine wpAny_pure (fin (Q := fun _ _ => True) tr I2 (.int _ _) hp st2 ?_ (Nat.le_succ _))
        have e1 : ((n + 1 : Nat) : Int) - 1 = (n : Int) := by omega
        rw [e1] at hit1
        exact ⟨hi.1, hit1⟩
      | two _ _ => simp [putI] at hp
  | lst m i =>
    simp only [nextI] at h
    split at h
    · rename_i xs q
      split at h
      · rename_i x q2
        simp only [Option.some.injEq, Prod.mk.injEq] at h
        obtain ⟨rfl, rfl, rfl⟩ := h
        obtain ⟨hj, l, el, hit⟩ := hi
        obtain ⟨a', vs, c, e1, e2, e3⟩ := I.list q
        rw [el] at e1; cases e1
        obtain ⟨x', hx', hv⟩ := e3.get q2
        refine wpAny_pyNext_list_item hit (isList_of e2) (x := x') (by simpa using hx') fun h1 hit1 hs1 => ?_
        have hk : ∀ b o, b ∉ [it, jt] → s.heap.get? b = some o → h1.get? b = some o := fun b o hb e => (hs1.2 b (fun z => hb (by simp [z]))).trans e
        have I2 := I.keptX ox hk
        have st2 := st0.keptX ox hk
        cases tp with
        | one tr =>
          simp only [putI] at hp
          show wpAny _ _ (letOwnedTupleGo _ _ _) _ _ _
          rw [go_name tr]
          exact wpAny_pure (fin (tk1 := s.toks) (Q := fun _ _ => True) tr I2 hv hp st2 ⟨hj, l, el, hit1⟩ (Nat.le_refl _))
        | two _ _ => simp [putI] at hp
      · cases h
    · cases h
  | enm m i =>
    simp only [nextI] at h
    split at h
    · rename_i xs q
      split at h
      · rename_i x q2
        simp only [Option.some.injEq, Prod.mk.injEq] at h
        obtain ⟨rfl, rfl, rfl⟩ := h
        obtain ⟨hne, l, old, el, he, hit⟩ := hi
        obtain ⟨a', vs, c, e1, e2, e3⟩ := I.list q
        rw [el] at e1; cases e1
        obtain ⟨x', hx', hv⟩ := e3.get q2
        cases tp with
        | one tr => simp [putI] at hp
        | @two x1 x2 t1 t2 _ _ tr1 tr2 =>
          simp only [putI] at hp
          refine wpAny_pyNext_enum_item he hit (isList_of e2) (x := x') (by simpa using hx') hne fun h1 heo hit1 ht1 hz1 hk1 => ?_
          show wpAny _ _ (letOwnedTupleGo _ _ _) _ _ _
          refine wpAny_letOwnedTupleGo_enum heo fun h2 he2 hs2 => ?_
          have hs2' : Heap.SameBut it h1 h2 := hs2
          have hD : s.heap.objs.size ≠ it := by obtain ⟨o, ho⟩ := live; exact Nat.ne_of_gt (Heap.lt_size ho)
          have ht2 : h2.get? s.heap.objs.size = some { cls := .type "tuple", data := .seq #[.int i s.toks, x'] } := (hs2'.2 _ hD).trans ht1
          have hk2 : ∀ b o, b ∉ [it, jt] → s.heap.get? b = some o → h2.get? b = some o := fun b o hb e =>
            (hs2'.2 b (fun z => hb (by simp [z]))).trans (hk1 b o (fun z => hb (by simp [z])) (fun z => hb (by simp [z])) e)
          rw [assign_Tuple]
          refine wpAny_bind (wpAny_standAt ?_)
          have trs : TRs nm [x1, x2] [t1, t2] := .cons tr1 (.cons tr2 .nil)
          unfold unpack
          obtain ⟨l1, l2⟩ := trs.length (env := env)
          rw [l2, l1]
          refine wpAny_bind (wpAny_holding (unpackItems_tuple (items := #[.int i s.toks, x']) hh ⟨_, ht2, rfl, _, rfl⟩ fun h3 hx3 => ?_))
          have hx3' : ∀ b o, h2.get? b = some o → h3.get? b = some o := fun b o e => hx3 b o (Nat.ne_of_lt (Heap.lt_size e)) e
          have I3 : Inv ρ hb nm env fm H σ h3 := (I.keptX ox hk2).kept hx3'
          have st3 : Step env fm.fz σ0 h0 σ h3 := st0.keptX ox fun b o hb e => hx3' b o (hk2 b o hb e)
          have hit3 : ItR σ h3 it jt (.enm m (i + 1)) := by
            refine ⟨hne, l, x', el, ?_, ?_⟩
            · have := hx3' it _ he2
              exact this
            · exact (hit1.extBut hs2'.extBut (Ne.symm hne)).at fun o e => hx3' jt o e
          refine S_puts (s := { s with heap := h3, toks := s.toks + 1 }) trs I3 (.cons (.int _ _) (.cons hv .nil)) hp fun h' tk htk hf I' st' => ?_
          exact k h' tk (Nat.le_trans (Nat.le_succ _) htk) hf I' (Step.trans I3 st3 st') (after (I2 := I3) (fm' := fm1) (Hn := H') hit3 st')
      · cases h
    · cases h
end
end Mine
end
section
open PySem PySem.Calls PyProof.Rows PySem.W PySem.SeqAt
namespace Mine
set_option maxRecDepth 10000
set_option autoImplicit false
set_option linter.unusedVariables false

section
variable {prog : Program} {w : World} {ρ : Nat → Int} {hb h0 : Heap} {mg mb : Str → Option Value} {K : Orc} {P : List FnD} {r : Rec} {n : Nat} {nm : Nm} {env : Env} {fm fm1 : Fm} {H H' H1 : List O} {σ σ0 σ' : List Addr} {s : Shared} {A : Around} {E : Value → Shared → Prop} {h h1 : Heap}
variable {v : V} {it jt : Addr} {I0 I1 : It}

theorem Step.live {b : Addr} {o : Obj} (I : Inv ρ hb nm env fm H σ' h1) (x : Step env fm.fz σ h σ' h1) (e : h.get? b = some o) : ∃ o', h1.get? b = some o' := by
  obtain ⟨τ, rfl, f1⟩ := x.ext
  by_cases hL : b = env.locals
  · subst hL; obtain ⟨m, ⟨o', es, ep, e', r⟩, _⟩ := I.ns; exact ⟨o', e'⟩
  · by_cases hm : ∃ n, fm.fz ≤ n ∧ σ[n]? = some b
    · obtain ⟨n, _, hn⟩ := hm
      exact I.hr.live (get_ext hn)
    · exact ⟨o, x.keep b o hL (fun n hn q => hm ⟨n, hn, q⟩) e⟩

theorem OwnX.new {X : List Addr} (I : Inv ρ hb nm env fm H σ h1) (st : Step env fm.fz σ0 h0 σ h1) (hx : ∀ x ∈ X, h1.get? x = none) : OwnX hb h0 env σ X where
  s := fun x hm hs => by obtain ⟨n, hn⟩ := mem_getQ hs; obtain ⟨o, e⟩ := I.hr.live hn; rw [hx x hm] at e; cases e
  loc := fun hm => by obtain ⟨m, ⟨o', es, ep, e', r⟩, _⟩ := I.ns; rw [hx _ hm] at e'; cases e'
  b := fun x hm => by
    cases q : hb.get? x with
    | none => rfl
    | some o => have := I.base x o q; rw [hx x hm] at this; cases this
  h0 := fun x hm => by
    cases q : h0.get? x with
    | none => rfl
    | some o => obtain ⟨o', e⟩ := st.live I q; rw [hx x hm] at e; cases e

theorem OwnX.ext {X : List Addr} {fz : Nat} (ox : OwnX hb h0 env σ X) (st : Step env fz σ h σ' h1) (hl : ∀ x ∈ X, ∃ o, h.get? x = some o) : OwnX hb h0 env σ' X where
  s := fun x hm hs => by
    obtain ⟨τ, rfl, f⟩ := st.ext
    rcases List.mem_append.mp hs with q | q
    · exact ox.s x hm q
    · obtain ⟨o, e⟩ := hl x hm; rw [f x q] at e; cases e
  loc := ox.loc
  b := ox.b
  h0 := ox.h0
theorem ItR.step {fz : Nat} (x : ItR σ h it jt I0) (ox : OwnX hb h0 env σ [it, jt]) (st : Step env fz σ h σ' h1) : ItR σ' h1 it jt I0 := by
  obtain ⟨τ, rfl, f⟩ := st.ext
  exact x.kept (fun b o hb e => st.keep b o (fun z => ox.loc (z ▸ hb)) (fun n _ q => ox.s b hb (List.mem_of_getElem? q)) e) τ

theorem S_iter {Q : Value → Shared → Prop} (G : GF hb mg mb) (IH : Sound prog w ρ hb r n) (hA : OkA n A) (ht : 1 ≤ s.toks) {e : PySem.Expr} {x : X} (ce : CE nm e x) (I : Inv ρ hb nm env fm H σ s.heap) (h : iterOf r fm H x = some (I0, H'))
    (k : ∀ h' tk σ' it jt, 1 ≤ tk → Inv ρ hb nm env fm H' σ' h' → Step env fm.fz σ s.heap σ' h' → ItR σ' h' it jt I0 → OwnX hb s.heap env σ' [it, jt] → Q (.ref it) { s with heap := h', toks := tk }) :
    wpAny (model prog w) A (eval e env) (fun x' s1 => wpAny (model prog w) A (pyIter x') Q E s1) E s := by
  -- a range
  have rg : ∀ {a b : Int} {t u z : Tok} {h1 : Heap} {tk1 : Nat} {σ1 : List Addr}, 1 ≤ tk1 → Inv ρ hb nm env fm H' σ1 h1 → Step env fm.fz σ s.heap σ1 h1 → 0 ≤ a → a ≤ b → b ≤ 64 → I0 = .rng a (b - a).toNat →
      wpAny (model prog w) A (pyIter (.ref h1.objs.size)) Q E { s with heap := h1.push { cls := .type "range", data := .fields #[.int a t, .int b u, .int 1 z] }, toks := tk1 } := by
    intro a b t u z h1 tk1 σ1 hle I1 st1 ha hab hb64 hI
    subst hI
    refine wpAny_pyIter_range (IsRange.new ..) (small_one (by omega) (by omega) (by omega) (by omega)) ?_
    have hk : ∀ b' o, h1.get? b' = some o → ((h1.push { cls := .type "range", data := .fields #[.int a t, .int b u, .int 1 z] }).push { cls := .type "range_iterator", data := .fields #[rawInt a, rawInt (Builtin.Range.rangeSize a b 1), rawInt 1] }).get? b' = some o :=
      fun b' o q => Heap.get?_push_of_some _ (Heap.get?_push_of_some _ q)
    have hD := Heap.get?_push_size (h1.push { cls := .type "range", data := .fields #[.int a t, .int b u, .int 1 z] }) (o := { cls := .type "range_iterator", data := .fields #[rawInt a, rawInt (Builtin.Range.rangeSize a b 1), rawInt 1] }) rfl
    have hsz : Builtin.Range.rangeSize a b 1 = ((b - a).toNat : Int) := by rw [rangeSize_one]; split <;> omega
    refine k _ _ σ1 _ (h1.push { cls := .type "range", data := .fields #[.int a t, .int b u, .int 1 z] }).objs.size hle (I1.kept hk) (Step.trans I1 st1 (Step.kept hk)) ⟨rfl, ?_⟩ (OwnX.new I1 st1 fun x hx => ?_)
    · rw [← hsz]; exact hD
    · simp at hx; subst hx
      exact none_ge (by first | exact Nat.le_succ _ | (rw [Heap.size_push]; exact Nat.le_succ _))
  -- a list
  have ls : ∀ {m : Nat} {xs : List V} {v' : Value} {h1 : Heap} {tk1 : Nat} {σ1 : List Addr}, 1 ≤ tk1 → Inv ρ hb nm env fm H' σ1 h1 → Step env fm.fz σ s.heap σ1 h1 → VR ρ σ1 (.ref m) v' → getL H' m = some xs → I0 = .lst m 0 →
      wpAny (model prog w) A (pyIter v') Q E { s with heap := h1, toks := tk1 } := by
    intro m xs v' h1 tk1 σ1 hle I1 st1 hv hq hI
    subst hI
    obtain ⟨a, ea, rfl⟩ := hv.refE
    obtain ⟨a', vs, c, e1, e2, e3⟩ := I1.list hq
    rw [ea] at e1; cases e1
    refine wpAny_pyIter_list (isList_of e2) ?_
    have hk : ∀ b' o, h1.get? b' = some o → (h1.push { cls := .type "list_iterator", data := .fields #[.ref a, .int 0 0] }).get? b' = some o := fun b' o q => Heap.get?_push_of_some _ q
    refine k _ _ σ1 _ h1.objs.size hle (I1.kept hk) (Step.trans I1 st1 (Step.kept hk)) ⟨rfl, a, ea, _, Heap.get?_push_size _ rfl, rfl, rfl⟩ (OwnX.new I1 st1 fun x hx => ?_)
    simp at hx; subst hx
    exact none_ge (Nat.le_refl _)
  unfold iterOf at h
  split at h
  · rename_i a
    cases ce with
    | rng hg cs =>
      cases cs with
      | cons hs1 c1 cs =>
        cases cs with
        | nil =>
          split at h
          · rename_i b H1 q1
            split at h
            · rename_i hz
              cases h
              simp only [Bool.and_eq_true, decide_eq_true_eq] at hz
              refine wpAny_Call_NameR (S_glob G I hg (by decide +kernel) (by rfl) ?_)
              refine PySem.callWith_type (star_plain (.cons hs1 c1 .nil) _) ?_
              rw [star_cons hs1]
              refine evalArgs_plain (spliced_cons (IH.ev hA ht c1 I q1 fun u' h1 t1 σ1 I1 st1 hu ht1 => ?_))
              obtain ⟨t, rfl⟩ := hu.intE
              refine spliced_nil (call_range_1 ?_)
              refine rg (Nat.le_trans ht1 (Nat.le_trans (Nat.le_succ _) (Nat.le_succ _))) I1 st1 (Int.le_refl _) hz.1 hz.2 (by simp)
            · cases h
          · cases h
  · rename_i a a2
    cases ce with
    | rng hg cs =>
      cases cs with
      | cons hs1 c1 cs =>
        cases cs with
        | cons hs2 c2 cs =>
          cases cs with
          | nil =>
            split at h
            · rename_i b H1 q1
              split at h
              · rename_i b2 H2 q2
                split at h
                · rename_i hz
                  cases h
                  simp only [Bool.and_eq_true, decide_eq_true_eq] at hz
                  refine wpAny_Call_NameR (S_glob G I hg (by decide +kernel) (by rfl) ?_)
                  refine PySem.callWith_type (star_plain (.cons hs1 c1 (.cons hs2 c2 .nil)) _) ?_
                  rw [star_cons hs1]
                  refine evalArgs_plain (spliced_cons (IH.ev hA ht c1 I q1 fun u' h1 t1 σ1 I1 st1 hu ht1 => ?_))
                  obtain ⟨t, rfl⟩ := hu.intE
                  rw [star_cons hs2]
                  refine spliced_cons (IH.ev (s := { s with heap := h1, toks := t1 }) hA ht1 c2 I1 q2 fun u' h2 t2 σ2 I2 st2 hu ht2 => ?_)
                  obtain ⟨t', rfl⟩ := hu.intE
                  refine spliced_nil (call_range_2 ?_)
                  exact rg (Nat.le_trans ht2 (Nat.le_succ _)) I2 (Step.trans I1 st1 st2) hz.1.1 hz.1.2 hz.2 rfl
                · cases h
              · cases h
            · cases h
  · rename_i a
    cases ce with
    | enu hg hs c1 =>
      split at h
      · rename_i m H1 q1
        split at h
        · rename_i xs q2
          cases h
          refine S_call1t G IH hA ht I hg (by decide +kernel) (by rfl) hs c1 q1 fun u' h1 t1 σ1 I1 st1 hu ht1 => ?_
          obtain ⟨a, ea, rfl⟩ := hu.refE
          obtain ⟨a', vs, c, e1, e2, e3⟩ := I1.list q2
          rw [ea] at e1; cases e1
          refine call_enumerate_1 e2 fun h' he hit hz hk => ?_
          refine wpAny_pyIter_enum he ?_
          refine k h' t1 σ1 _ h1.objs.size ht1 (I1.kept hk) (Step.trans I1 st1 (Step.kept hk)) ⟨Nat.succ_ne_self _, a, _, ea, he, hit⟩ (OwnX.new I1 st1 fun x hx => ?_)
          simp at hx
          rcases hx with rfl | rfl
          · exact none_ge (Nat.le_succ _)
          · exact none_ge (Nat.le_refl _)
        · cases h
      · cases h
  · split at h
    · rename_i m H1 q1
      split at h
      · rename_i xs q2
        cases h
        exact IH.ev hA ht ce I q1 fun u' h1 t1 σ1 I1 st1 hu ht1 => ls ht1 I1 st1 hu q2 rfl
      · cases h
    · cases h

theorem S_whl (IH : Sound prog w ρ hb r n) (hA : OkA n A) (ht : 1 ≤ s.toks) {o : R} {Q : Flow → Shared → Prop} {t : PySem.Expr} {b : List PySem.Stmt} {p : Pos} {x : X} {y : List S} (c0 : CE nm t x) (c1 : CSts nm b y)
    (I : Inv ρ hb nm env fm H σ s.heap) (h : stF r fm H (.whl x y) = some (o, fm1, H')) (k : PostS ρ hb nm env fm σ s H' fm1 o (PT Q)) : wpAny (model prog w) A (exec (.While t b [] p) env) Q E s := by
  simp only [stF] at h
  rw [exec_While]
  refine wpAny_bind (wpAny_standAt (wpAny_runOwn ?_))
  refine codeAny_whileLoop (R := fun r s' => match r with | .ok f => Q f s' | .error e => cameBackBy (model prog w) A env E e s')
    (fun kk s' => ∃ h' tk σ' fm' Hc, s' = { s with heap := h', toks := tk } ∧ 1 ≤ tk ∧ fm'.fz = fm.fz ∧ Inv ρ hb nm env fm' Hc σ' h' ∧ Step env fm.fz σ s.heap σ' h' ∧ whlN r x y kk fm' Hc = some (o, fm1, H')) ?_ 70
    ⟨s.heap, s.toks, σ, fm, H, rfl, ht, rfl, I, Step.refl, h⟩
  rintro kk s' ⟨h', tk, σ', fm', Hc, rfl, htk, hf, I', st', hw⟩
  cases kk with
  | zero => simp [whlN] at hw
  | succ kk =>
    simp only [whlN] at hw
    split at hw
    · rename_i H1 q1
      cases hw
      refine IH.ts (s := { s with heap := h', toks := tk }) hA htk c0 I' q1 fun h1 t1 σ1 I1 st1 ht1 => ?_
      rw [if_neg Bool.false_ne_true]
      refine wpAny_execs_nil ?_
      rw [hf] at st1
      have st2 : Step env fm1.fz σ' h' σ1 h1 := by rw [hf]; exact st1
      have st3 : Step env fm1.fz σ s.heap σ' h' := by rw [hf]; exact st'
      have st4 := Step.trans I' st3 st2
      rw [hf] at st4
      exact k .next h1 t1 σ1 hf I1 st4 trivial ht1
    · rename_i H1 q1
      split at hw
      · rename_i fm2 H2 q2
        refine IH.ts (s := { s with heap := h', toks := tk }) hA htk c0 I' q1 fun h1 t1 σ1 I1 st1 ht1 => ?_
        rw [if_pos rfl]
        refine stL_sound (s := { s with heap := h1, toks := t1 }) IH hA c1 ht1 I1 q2 fun f h2 t2 σ2 hf2 I2 st2 hr ht2 => ?_
        cases f <;> first | exact hr.elim | skip
        refine ⟨kk, Nat.lt_succ_self _, h2, t2, σ2, fm2, H2, rfl, ht2, hf2.trans hf, I2, ?_, hw⟩
        have st3 : Step env fm'.fz σ s.heap σ' h' := by rw [hf]; exact st'
        have st4 := Step.trans I1 (Step.trans I' st3 st1) st2
        rw [hf] at st4
        exact st4
      · rename_i v fm2 H2 q2
        cases hw
        refine IH.ts (s := { s with heap := h', toks := tk }) hA htk c0 I' q1 fun h1 t1 σ1 I1 st1 ht1 => ?_
        rw [if_pos rfl]
        refine stL_sound (s := { s with heap := h1, toks := t1 }) IH hA c1 ht1 I1 q2 fun f h2 t2 σ2 hf2 I2 st2 hr ht2 => ?_
        cases f <;> first | exact hr.elim | skip
        have st3 : Step env fm'.fz σ s.heap σ' h' := by rw [hf]; exact st'
        have st4 := Step.trans I1 (Step.trans I' st3 st1) st2
        rw [hf] at st4
        exact k _ h2 t2 σ2 (hf2.trans hf) I2 st4 hr ht2
      · cases hw
    · cases hw

theorem S_fr (G : GF hb mg mb) (IH : Sound prog w ρ hb r n) (hA : OkA n A) (ht : 1 ≤ s.toks) {o : R} {Q : Flow → Shared → Prop} {target iter : PySem.Expr} {b : List PySem.Stmt} {p : Pos} {tgs : List Tg} {pr : Bool} {x : X} {y : List S}
    (hs : ∀ env v, foldedSetIterable iter env v = pure v) (tp : TP nm target tgs pr) (c0 : CE nm iter x) (c1 : CSts nm b y)
    (I : Inv ρ hb nm env fm H σ s.heap) (h : stF r fm H (.fr tgs pr x y) = some (o, fm1, H')) (k : PostS ρ hb nm env fm σ s H' fm1 o (PT Q)) : wpAny (model prog w) A (exec (.For target iter b [] p) env) Q E s := by
  simp only [stF] at h
  split at h
  · rename_i I0 H0 q0
    refine wpAny_For (S_iter G IH hA ht c0 I q0 fun h0 t0 σ0 it jt ht0 I0' st0 hit0 ox0 => ?_) (hs env)
    refine codeAny_forLoop_any (R := fun r s' => match r with | .ok f => Q f s' | .error e => cameBackBy (model prog w) A env E e s')
      (fun kk s' => ∃ h' tk σ' fm' Hc I1, s' = { s with heap := h', toks := tk } ∧ 1 ≤ tk ∧ fm'.fz = fm.fz ∧ Inv ρ hb nm env fm' Hc σ' h' ∧ Step env fm.fz σ s.heap σ' h' ∧ ItR σ' h' it jt I1 ∧ OwnX hb s.heap env σ' [it, jt] ∧ forN r tgs pr y kk I1 fm' Hc = some (o, fm1, H')) ?_ 70
      ⟨h0, t0, σ0, fm, H0, I0, rfl, ht0, rfl, I0', st0, hit0, ox0, h⟩
    rintro kk s' ⟨h', tk, σ', fm', Hc, I1, rfl, htk, hf, I', st', hit, ox, hw⟩
    cases kk with
    | zero => simp [forN] at hw
    | succ kk =>
      have st3 : Step env fm'.fz σ s.heap σ' h' := by rw [hf]; exact st'
      simp only [forN] at hw
      split at hw
      · rename_i u1 u2 q1
        cases hw
        refine S_next_end (s := { s with heap := h', toks := tk }) hA.1 I' hit q1 fun h1 hk => ?_
        refine wpAny_execs_nil ?_
        exact k .next h1 tk σ' hf (I'.keptX ox hk) (st'.keptX ox hk) trivial htk
      · rename_i v u I2 q1
        split at hw
        · rename_i fm2 H2 q2
          refine S_turn (s := { s with heap := h', toks := tk }) hA.1 tp I' hit ox st3 q1 q2 fun h1 t1 hle hf1 I1' st1 hit1 => ?_
          have ht1 : 1 ≤ t1 := Nat.le_trans htk hle
          have st1' : Step env fm2.fz σ s.heap σ' h1 := by rw [hf1]; exact st1
          split at hw
          · rename_i fm3 H3 q3
            refine stL_sound (s := { s with heap := h1, toks := t1 }) IH hA c1 ht1 I1' q3 fun f h2 t2 σ2 hf2 I2' st2 hr ht2 => ?_
            cases f <;> first | exact hr.elim | skip
            have st4 := Step.trans I1' st1' st2
            refine ⟨kk, Nat.lt_succ_self _, h2, t2, σ2, fm3, H3, I2, rfl, ht2, (hf2.trans hf1).trans hf, I2', ?_, hit1.step ox st2, ox.ext st2 hit1.live, hw⟩
            rw [hf1.trans hf] at st4
            exact st4
          · rename_i v fm3 H3 q3
            cases hw
            refine stL_sound (s := { s with heap := h1, toks := t1 }) IH hA c1 ht1 I1' q3 fun f h2 t2 σ2 hf2 I2' st2 hr ht2 => ?_
            cases f <;> first | exact hr.elim | skip
            have st4 := Step.trans I1' st1' st2
            rw [hf1.trans hf] at st4
            exact k _ h2 t2 σ2 ((hf2.trans hf1).trans hf) I2' st4 hr ht2
          · cases hw
        · cases hw
      · cases hw
  · cases h
end
end Mine
end
section
open PySem PySem.Calls PyProof.Rows PySem.W PySem.SeqAt
namespace Mine
set_option maxRecDepth 10000
set_option autoImplicit false
set_option linter.unusedVariables false

/-! a heap with some objects hidden -/
def mask : List Addr → Heap → Heap
  | [], h => h
  | x :: X, h => (mask X h).update x fun o => { o with data := .freed }
theorem mask_out {X : List Addr} {h : Heap} {b : Addr} (hb : b ∉ X) : (mask X h).get? b = h.get? b := by
  induction X with
  | nil => rfl
  | cons x X ih =>
    simp only [List.mem_cons, not_or] at hb
    show ((mask X h).update x _).get? b = _
    rw [Heap.get?_update_other _ _ (Ne.symm hb.1)]
    exact ih hb.2
theorem mask_in {X : List Addr} {h : Heap} {b : Addr} (hb : b ∈ X) : (mask X h).get? b = none := by
  induction X with
  | nil => cases hb
  | cons x X ih =>
    show ((mask X h).update x _).get? b = none
    by_cases hx : b = x
    · subst hx
      cases q : ((mask X h).update b fun o => { o with data := .freed }).get? b with
      | none => rfl
      | some o =>
        exfalso
        obtain ⟨e1, e2⟩ := Heap.get?_some_iff.mp q
        generalize mask X h = g at e1
        obtain ⟨objs⟩ := g
        simp only [Heap.update, Array.getElem?_modify, if_true] at e1
        cases q2 : objs[b]? with
        | none => rw [q2] at e1; cases e1
        | some o' =>
          rw [q2] at e1
          simp only [Option.map_some, Option.some.injEq] at e1
          subst e1
          simp [Obj.isFreed] at e2
    · rw [Heap.get?_update_other _ _ (Ne.symm hx)]
      exact ih (by simpa [hx] using hb)

theorem forIn_off {env : Env} (l : List PySem.Expr) :
    (forIn l false fun c r => if r = true then do let ok ← isTrue c env (eval c env); pure (ForInStep.yield ok) else pure (ForInStep.yield r) : Sem Bool) = pure false := by
  induction l with
  | nil => rfl
  | cons x l ih =>
    simp only [List.forIn_cons, Bool.false_eq_true, if_false]
    exact ih

section
variable {prog : Program} {w : World} {A : Around} {E : Value → Shared → Prop} {R : Result → Shared → Prop} {s : Shared}
theorem codeAny_compLoop_any {elt target iter : PySem.Expr} {ifs : List PySem.Expr} {scope : Scope} {pos : Pos} {it acc : Value} {env : Env} (I : Nat → Shared → Prop)
    (turn : ∀ n s, I n s → wpAny (model prog w) A (pyNext it) (fun r s₁ => match r with
      | none => R (.ok .next) s₁
      | some v => wpAny (model prog w) A (letOwnedTupleGo target it v) (fun _ s' => wpAny (model prog w) A (assign target env v) (fun _ s₂ =>
          wpAny (model prog w) A (forIn ifs true fun c r => if r = true then do let ok ← isTrue c env (eval c env); pure (ForInStep.yield ok) else pure (ForInStep.yield r)) (fun ok s₃ =>
            if ok = true then wpAny (model prog w) A (eval elt env) (fun x s₄ =>
              wpAny (model prog w) A (call (.builtin "list.append") [acc, x]) (fun _ s₅ => ∃ m, m < n ∧ I m s₅) (notedBy (model prog w) A env fun e s' => R (.error e) s') s₄) (notedBy (model prog w) A env fun e s' => R (.error e) s') s₃
            else ∃ m, m < n ∧ I m s₃) (notedBy (model prog w) A env fun e s' => R (.error e) s') s₂) (notedBy (model prog w) A env fun e s' => R (.error e) s') s') (notedBy (model prog w) A env fun e s' => R (.error e) s') s₁) (notedBy (model prog w) A env fun e s' => R (.error e) s') s)
    (n : Nat) (h : I n s) : codeAny (model prog w) A (.compLoop (.ListComp elt [⟨target, iter, ifs, 0⟩] scope pos) 0 it acc env) R s := by
  refine codeAny_loop rfl I (fun n s hI => ?_) n h
  show wpAny _ A ((compTurn (.ListComp elt [⟨target, iter, ifs, 0⟩] scope pos) 0 it acc env).onRaise (fun x => do noteFrame x env; theTreesLotGoes x)) _ _ s
  refine wpAny_noted ?_
  rw [compTurn_list]
  refine wpAny_bind (wpAny_standAt (wpAny_bind (wpAny_mono (turn n s hI) (fun r s₁ h₁ => ?_) fun _ _ h' => h')))
  cases r with
  | none => exact wpAny_pure h₁
  | some v =>
    refine wpAny_bind (wpAny_mono h₁ (fun _ s' h' => ?_) fun _ _ h' => h')
    refine wpAny_bind (wpAny_mono h' (fun _ s₂ h₂ => wpAny_bind (wpAny_mono h₂ (fun ok s₃ h₃ => ?_) fun _ _ h' => h')) fun _ _ h' => h')
    cases ok with
    | false =>
      rw [if_neg Bool.false_ne_true] at h₃
      simp only [Bool.false_eq_true, if_false]
      first
        | exact wpAny_pure ⟨rfl, h₃⟩
        | exact wpAny_bind (wpAny_pure (wpAny_pure ⟨rfl, h₃⟩))
    | true =>
      rw [if_pos rfl] at h₃
      simp only [if_true]
      first
        | exact wpAny_bind (wpAny_bind (wpAny_mono h₃ (fun x s₄ h₄ => wpAny_bind (wpAny_mono h₄ (fun _ s₅ h₅ => wpAny_pure (wpAny_pure ⟨rfl, h₅⟩)) fun _ _ h' => h')) fun _ _ h' => h'))
        | exact wpAny_bind (wpAny_mono h₃ (fun x s₄ h₄ => wpAny_bind (wpAny_mono h₄ (fun _ s₅ h₅ => wpAny_pure ⟨rfl, h₅⟩) fun _ _ h' => h')) fun _ _ h' => h')

theorem append_call {D : Addr} {vs : List Value} {c : Nat} {x : Value} {Q : Value → Shared → Prop} (e : s.heap.get? D = some (listOf (List.toArray vs) c)) (hz : vs.length ≤ sizeLine)
    (h : Q .none { s with heap := s.heap.update D (Obj.mapSeq fun y => y.push x) }) : wpAny (model prog w) A (call (.builtin "list.append") [.ref D, x]) Q E s :=
  call_meets F.slot_list_append (isList_of e).typeIs F.entry_list_append (F.args_list_append_2 _ _) (list_append D _ c x (by rw [List.size_toArray]; exact hz)) ⟨e, h⟩
end

section
variable {prog : Program} {w : World} {ρ : Nat → Int} {hb h0 : Heap} {mg mb : Str → Option Value} {K : Orc} {P : List FnD} {r : Rec} {n : Nat} {nm nm' : Nm} {env cenv : Env} {fm fm' fm1 : Fm} {H H' H1 H2 : List O} {σ σ0 σ' σ1 σ2 : List Addr} {s : Shared} {A : Around} {E : Value → Shared → Prop} {h h1 h2 : Heap}
variable {v : V} {it jt : Addr} {I0 I1 : It}

theorem Inv.alive (I : Inv ρ hb nm env fm H σ h) : ∃ o, h.get? env.locals = some o := by obtain ⟨m, ⟨o', es, ep, e', r⟩, _⟩ := I.ns; exact ⟨o', e'⟩
theorem Inv.hbdead {b : Addr} (I : Inv ρ hb nm env fm H σ h) (e : h.get? b = none) : hb.get? b = none := by
  cases q : hb.get? b with
  | none => rfl
  | some o => have := I.base b o q; rw [e] at this; cases this
theorem Inv.sdead {b : Addr} (I : Inv ρ hb nm env fm H σ h) (e : h.get? b = none) : b ∉ σ := fun hm => by
  obtain ⟨n, hn⟩ := mem_getQ hm
  obtain ⟨o, q⟩ := I.hr.live hn
  rw [e] at q; cases q
theorem Inv.ldead {b : Addr} (I : Inv ρ hb nm env fm H σ h) (e : h.get? b = none) : b ≠ env.locals := fun q => by
  obtain ⟨m, ⟨o', es, ep, e', r⟩, _⟩ := I.ns
  rw [← q, e] at e'; cases e'

/-- back from a callee's frame to its caller's -/
theorem Inv.back (I1 : Inv ρ hb nm env fm H1 σ1 h1) (I2 : Inv ρ hb nm' cenv fm' H2 σ2 h2) (hx : ∃ τ, σ2 = σ1 ++ τ ∧ ∀ a ∈ τ, h1.get? a = none) (hL : ∀ o, h1.get? env.locals = some o → h2.get? env.locals = some o) :
    Inv ρ hb nm env fm H2 σ2 h2 where
  kind := I1.kind
  names := I1.names
  glob := I1.glob
  bt := I1.bt
  base := I2.base
  nd := I1.nd
  ns := let ⟨m, a, b⟩ := I1.ns; ⟨m, a.at hL, by obtain ⟨τ, rfl, _⟩ := hx; exact b.ext⟩
  hr := I2.hr
  nodup := I2.nodup
  loc := fun hm => by
    obtain ⟨τ, rfl, f⟩ := hx
    rcases List.mem_append.mp hm with q | q
    · exact I1.loc q
    · exact (I1.ldead (f _ q)) rfl
  lb := I1.lb
  mtb := fun n a hn e => by
    obtain ⟨τ, rfl, f⟩ := hx
    rcases Nat.lt_or_ge n σ1.length with hlt | hge
    · rw [List.getElem?_append_left hlt] at e; exact I1.mtb n a hn e
    · rw [List.getElem?_append_right hge] at e
      exact I1.hbdead (f a (List.mem_of_getElem? e))
  fzle := by
    obtain ⟨τ, rfl, f⟩ := hx
    have a1 := I1.fzle
    have a2 := I1.hr.len
    have a3 := I2.hr.len
    simp at a3
    omega

/-- an object taken in as own -/
theorem Inv.adopt {D : Addr} {o : O} (I : Inv ρ hb nm env fm H σ h) (hs : D ∉ σ) (hl : D ≠ env.locals) (hd : hb.get? D = none) (ho : OR ρ (σ ++ [D]) h D o) : Inv ρ hb nm env fm (H ++ [o]) (σ ++ [D]) h where
  kind := I.kind
  names := I.names
  glob := I.glob
  bt := I.bt
  base := I.base
  nd := I.nd
  ns := let ⟨m, a, b⟩ := I.ns; ⟨m, a, b.ext⟩
  hr := ⟨by simp [I.hr.len], fun n o' a e e' => by
    rcases Nat.lt_or_ge n H.length with hlt | hge
    · rw [List.getElem?_append_left hlt] at e
      rw [List.getElem?_append_left (by rw [I.hr.len]; exact hlt)] at e'
      exact (I.hr.obj n o' a e e').ext fun ob q => q
    · have hn : n = H.length := by
        have := (List.getElem?_eq_some_iff.mp e).1
        simp at this; omega
      subst hn
      simp at e
      rw [← I.hr.len] at e'
      simp at e'
      subst e; subst e'
      exact ho⟩
  nodup := List.nodup_append.mpr ⟨I.nodup, by simp, fun a ha b hb' e => by
    simp at hb'
    subst hb'; subst e
    exact hs ha⟩
  loc := fun hm => by
    rcases List.mem_append.mp hm with hm | hm
    · exact I.loc hm
    · simp at hm
      exact hl hm.symm
  lb := I.lb
  mtb := fun n a hn e => by
    rcases Nat.lt_or_ge n σ.length with hlt | hge
    · rw [List.getElem?_append_left hlt] at e; exact I.mtb n a hn e
    · rw [List.getElem?_append_right hge] at e
      have : a ∈ [D] := List.mem_of_getElem? e
      simp at this
      subst this
      exact hd
  fzle := by have := I.fzle; simp; omega

theorem Step.more {X : List Addr} (I : Inv ρ hb nm env fm H1 σ1 h1) (st : Step env fm.fz σ h σ1 h1) (hx : ∃ τ, σ2 = σ1 ++ τ ∧ ∀ a ∈ τ, h.get? a = none) (hX : ∀ x ∈ X, h.get? x = none) (hk : ∀ b o, b ∉ X → h1.get? b = some o → h2.get? b = some o) :
    Step env fm.fz σ h σ2 h2 := by
  obtain ⟨τ, rfl, f⟩ := st.ext
  obtain ⟨τ', rfl, f'⟩ := hx
  refine ⟨⟨τ ++ τ', by rw [List.append_assoc], fun a ha => (List.mem_append.mp ha).elim (f a) (f' a)⟩, fun b o hL hM e => hk b o (fun q => by rw [hX b q] at e; cases e) (st.keep b o hL hM e)⟩

theorem tests_sound (IH : Sound prog w ρ hb r n) (hA : OkA n A) {ifs : List PySem.Expr} {xs : List X} (c : CEs nm ifs xs) : ∀ {H H' : List O} {σ : List Addr} {s : Shared} {b : Bool} {Q : Bool → Shared → Prop}, 1 ≤ s.toks → Inv ρ hb nm env fm H σ s.heap →
    allT r fm true H xs = some (b, H') → PostB ρ hb nm env fm σ s H' b (PT Q) →
    wpAny (model prog w) A (forIn ifs true fun c r => if r = true then do let ok ← isTrue c env (eval c env); pure (ForInStep.yield ok) else pure (ForInStep.yield r)) Q E s := by
  induction ifs generalizing xs with
  | nil =>
    intro H H' σ s b Q ht I h k
    cases c
    simp only [allT, Option.some.injEq, Prod.mk.injEq] at h
    obtain ⟨rfl, rfl⟩ := h
    exact wpAny_pure (k s.heap s.toks σ I Step.refl ht)
  | cons e es ih =>
    intro H H' σ s b Q ht I h k
    cases c with
    | cons h1 h2 h3 =>
      simp only [allT] at h
      split at h
      · rename_i b1 H1 q1
        simp only [List.forIn_cons, if_true]
        refine wpAny_bind (wpAny_bind (IH.ts hA ht h2 I q1 fun h1 t1 σ1 I1 st1 ht1 => wpAny_pure ?_))
        cases b1 with
        | false =>
          simp only [Option.some.injEq, Prod.mk.injEq] at h
          obtain ⟨rfl, rfl⟩ := h
          dsimp only
          rw [forIn_off]
          exact wpAny_pure (k h1 t1 σ1 I1 st1 ht1)
        | true =>
          simp only at h
          exact ih (s := { s with heap := h1, toks := t1 }) h3 ht1 I1 h (PostB.on (s := s) k I1 st1)
      · cases h
end
end Mine
end
section
open PySem PySem.Calls PyProof.Rows PySem.W PySem.SeqAt
namespace Mine
set_option maxRecDepth 10000
set_option autoImplicit false
set_option linter.unusedVariables false

theorem closure_go {env : Env} : ∀ (l : List (Str × NameKind)) (acc : List (Str × Addr)), (l.map (·.1)).Nodup → (∀ x, (x, NameKind.free) ∈ l → ∃ a, env.cells.lookup x = some a) →
    ∃ cl, (forIn l acc fun x r => if (x.2 == NameKind.free) = true then do let c ← cellOf env x.1; pure (ForInStep.yield ((x.1, c) :: r)) else pure (ForInStep.yield r) : Sem (List (Str × Addr))) = pure cl ∧
      (∀ x a, (x, NameKind.free) ∈ l → env.cells.lookup x = some a → cl.lookup x = some a) ∧ ∀ x, x ∉ l.map (·.1) → cl.lookup x = acc.lookup x
  | [], acc, _, _ => ⟨acc, rfl, (fun x a h => by cases h), fun x _ => rfl⟩
  | (n, k) :: l, acc, nd, hf => by
    simp only [List.map_cons, List.nodup_cons] at nd
    have hf' : ∀ x, (x, NameKind.free) ∈ l → ∃ a, env.cells.lookup x = some a := fun x hx => hf x (.tail _ hx)
    by_cases hk : k = .free
    · subst hk
      obtain ⟨a, ha⟩ := hf n (.head _)
      obtain ⟨cl, e, g1, g2⟩ := closure_go l ((n, a) :: acc) nd.2 hf'
      refine ⟨cl, ?_, fun x b hx hb => ?_, fun x hx => ?_⟩
      · rw [List.forIn_cons, ← e]
        have : cellOf env n = pure a := by unfold cellOf; rw [ha]
        simp only [beq_self_eq_true, if_true, this]
        rfl
      · rcases List.mem_cons.mp hx with q | q
        · cases q
          rw [ha] at hb; cases hb
          rw [g2 n nd.1]
          simp
        · exact g1 x b q hb
      · simp only [List.map_cons, List.mem_cons, not_or] at hx
        rw [g2 x hx.2]
        have hb : (x == n) = false := by simpa using hx.1
        simp [List.lookup_cons, hb]
    · obtain ⟨cl, e, g1, g2⟩ := closure_go l acc nd.2 hf'
      have hb : (k == NameKind.free) = false := by simpa using hk
      refine ⟨cl, ?_, fun x b hx hb => ?_, fun x hx => ?_⟩
      · rw [List.forIn_cons, ← e]
        simp only [hb, Bool.false_eq_true, if_false]
        rfl
      · rcases List.mem_cons.mp hx with q | q
        · cases q; exact absurd rfl hk
        · exact g1 x b q hb
      · simp only [List.map_cons, List.mem_cons, not_or] at hx
        exact g2 x hx.2

theorem closure_ok {scope : Scope} {env : Env} (nd : (scope.names.map (·.1)).Nodup) (hf : ∀ x, (x, NameKind.free) ∈ scope.names → ∃ a, env.cells.lookup x = some a) :
    ∃ cl, closureFor scope env = pure cl ∧ ∀ x a, (x, NameKind.free) ∈ scope.names → env.cells.lookup x = some a → cl.lookup x = some a := by
  obtain ⟨cl, e, g, _⟩ := closure_go (env := env) scope.names [] nd hf
  refine ⟨cl, ?_, g⟩
  have hg : (fun (x : Str × NameKind) (r : List (Str × Addr)) => (match x with
      | (name, kind) => if (kind == NameKind.free) = true then do let c ← cellOf env name; pure (ForInStep.yield ((name, c) :: r)) else pure (ForInStep.yield r) : Sem (ForInStep (List (Str × Addr))))) =
      fun x r => if (x.2 == NameKind.free) = true then do let c ← cellOf env x.1; pure (ForInStep.yield ((x.1, c) :: r)) else pure (ForInStep.yield r) := by
    funext ⟨n, k⟩ r; rfl
  have e2 : closureFor scope env = (forIn scope.names ([] : List (Str × Addr)) (fun x r => if (x.2 == NameKind.free) = true then do let c ← cellOf env x.1; pure (ForInStep.yield ((x.1, c) :: r)) else pure (ForInStep.yield r)) >>= fun r => pure r : Sem (List (Str × Addr))) :=
    congrArg (fun f => (forIn scope.names ([] : List (Str × Addr)) f >>= fun r => pure r : Sem (List (Str × Addr)))) hg
  rw [e2, e]
  rfl

theorem lookup_nodup {l : List (Str × NameKind)} (nd : (l.map (·.1)).Nodup) : ∀ x ∈ l, l.lookup x.1 = some x.2 := by
  induction l with
  | nil => intro x hx; cases hx
  | cons y l ih =>
    intro x hx
    simp only [List.map_cons, List.nodup_cons] at nd
    rcases List.mem_cons.mp hx with rfl | hx'
    · obtain ⟨x1, x2⟩ := x; simp [List.lookup_cons]
    · have hne : x.1 ≠ y.1 := fun e => nd.1 (e ▸ List.mem_map.mpr ⟨x, hx', rfl⟩)
      obtain ⟨y1, y2⟩ := y
      have hb : (x.1 == y1) = false := by simpa using hne
      rw [List.lookup_cons, hb]
      exact ih nd.2 x hx'
theorem relabN_fst (nm names : Nm) : (relabN nm names).map (·.1) = names.map (·.1) := by
  unfold relabN
  rw [List.map_map]
  refine List.map_congr_left fun x _ => ?_
  obtain ⟨n, k⟩ := x
  simp only [Function.comp]
  split <;> rfl
theorem relabel_names {sc : Scope} {env : Env} {nm : Nm} (h1 : env.scope.names = nm) (h2 : env.scope.kind = .function) : (relabel sc env).names = relabN nm sc.names := by
  unfold relabel relabN Env.kindOf
  rw [h1, h2]
  simp

section
variable {ρ : Nat → Int} {σ : List Addr} {m : Str → Option Value} {nm : Nm} {env : Env} {fm : Fm}
theorem comp_frees {names : Nm} {csl : List CS} (c : CSRs nm names csl) : ∀ {sl : List Sl}, mkC fm csl = some sl → SlRs ρ σ m env.cells nm fm.sl → ∀ x, (x, NameKind.free) ∈ names → ∃ a, env.cells.lookup x = some a := by
  induction c with
  | nil => intro sl _ _ x hx; cases hx
  | @cons p c ps cs h1 h2 ih =>
    intro sl h hm x hx
    cases h1 with
    | loc y =>
      simp only [mkC] at h
      split at h
      · rename_i l q
        rcases List.mem_cons.mp hx with e | hx
        · cases e
        · exact ih q hm x hx
      · cases h
    | oth y =>
      simp only [mkC] at h
      split at h
      · rename_i l q
        rcases List.mem_cons.mp hx with e | hx
        · cases e
        · exact ih q hm x hx
      · cases h
    | fre y i kk e1 e2 =>
      simp only [mkC] at h
      split at h
      · rename_i nn q1
        split at h
        · rename_i l q
          rcases List.mem_cons.mp hx with e | hx
          · cases e
            have := hm.get e1 q1
            rcases e2 with rfl | rfl
            · obtain ⟨a, _, r⟩ := this; exact ⟨a, r⟩
            · obtain ⟨a, _, r⟩ := this; exact ⟨a, r⟩
          · exact ih q hm x hx
        · cases h
      · cases h
theorem comp_slots {names : Nm} {csl : List CS} (c : CSRs nm names csl) : ∀ {sl : List Sl} {cl : List (Str × Addr)}, mkC fm csl = some sl → SlRs ρ σ m env.cells nm fm.sl → (∀ x a, (x, NameKind.free) ∈ names → env.cells.lookup x = some a → cl.lookup x = some a) →
    SlRs ρ σ (fun _ => none) cl (relabN nm names) sl := by
  induction c with
  | nil =>
    intro sl cl h _ _
    simp only [mkC, Option.some.injEq] at h
    subst h
    exact .nil
  | @cons p c ps cs h1 h2 ih =>
    intro sl cl h hm hl
    have hl' : ∀ x a, (x, NameKind.free) ∈ ps → env.cells.lookup x = some a → cl.lookup x = some a := fun x a hx => hl x a (.tail _ hx)
    cases h1 with
    | loc y =>
      simp only [mkC] at h
      split at h
      · rename_i l q
        cases h
        exact .cons trivial (ih q hm hl')
      · cases h
    | oth y =>
      simp only [mkC] at h
      split at h
      · rename_i l q
        cases h
        exact .cons trivial (ih q hm hl')
      · cases h
    | fre y i kk e1 e2 =>
      simp only [mkC] at h
      split at h
      · rename_i nn q1
        split at h
        · rename_i l q
          cases h
          have hs : ∃ a, σ[nn]? = some a ∧ env.cells.lookup y = some a := by
            have := hm.get e1 q1
            rcases e2 with rfl | rfl <;> exact this
          obtain ⟨a, r1, r2⟩ := hs
          have r3 := hl y a (.head _) r2
          refine .cons ?_ (ih q hm hl')
          by_cases hc : (NameKind.free == NameKind.free && nm.lookup y == some NameKind.cell) = true
          · simp only [hc, if_true]
            exact ⟨a, r1, r3⟩
          · simp only [hc]
            exact ⟨a, r1, r3⟩
        · cases h
      · cases h
end

/-- what a comprehension's loop has kept -/
structure Lp (σ0 : List Addr) (h1 : Heap) (C : Addr) (X : List Addr) (σ' : List Addr) (h' : Heap) : Prop where
  ext : ∃ τ, σ' = σ0 ++ τ ∧ ∀ a ∈ τ, h1.get? a = none
  keep : ∀ b o, b ≠ C → b ∉ X → h1.get? b = some o → h'.get? b = some o

theorem Lp.step {σ0 σ' σ'' : List Addr} {h1 h' h'' : Heap} {C : Addr} {X Y : List Addr} {cenv : Env} (L : Lp σ0 h1 C X σ' h') (st : Step cenv σ0.length σ' (mask Y h') σ'' h'') (hY : ∀ x ∈ Y, x ∈ X) (hC : cenv.locals = C)
    (nC : C ∉ σ'') (nX : ∀ x ∈ X, x ∉ σ'') : Lp σ0 h1 C X σ'' h'' := by
  obtain ⟨τ, rfl, f⟩ := L.ext
  obtain ⟨τ', rfl, f'⟩ := st.ext
  refine ⟨⟨τ ++ τ', by rw [List.append_assoc], fun a ha => ?_⟩, fun b o hb hx e => ?_⟩
  · rcases List.mem_append.mp ha with q | q
    · exact f a q
    · cases e : h1.get? a with
      | none => rfl
      | some o =>
        exfalso
        have n1 : a ≠ C := fun z => nC (z ▸ List.mem_append_right _ q)
        have n2 : a ∉ X := fun z => nX a z (List.mem_append_right _ q)
        have e1 := L.keep a o n1 n2 e
        have e2 := f' a q
        rw [mask_out (fun z => n2 (hY a z)), e1] at e2
        cases e2
  · refine st.keep b o (by rw [hC]; exact hb) (fun n hn q => ?_) (by rw [mask_out fun z => hx (hY b z)]; exact L.keep b o hb hx e)
    rw [List.getElem?_append_right hn] at q
    rw [f b (List.mem_of_getElem? q)] at e
    cases e
theorem Lp.kept {σ0 σ' : List Addr} {h1 h' h'' : Heap} {C : Addr} {X : List Addr} (L : Lp σ0 h1 C X σ' h') (hk : ∀ b o, b ∉ X → h'.get? b = some o → h''.get? b = some o) : Lp σ0 h1 C X σ' h'' :=
  ⟨L.ext, fun b o hb hx e => hk b o hx (L.keep b o hb hx e)⟩
end Mine
end
section
open PySem PySem.Calls PyProof.Rows PySem.W PySem.SeqAt
namespace Mine
set_option maxRecDepth 10000
set_option autoImplicit false
set_option linter.unusedVariables false

section
variable {prog : Program} {w : World} {ρ : Nat → Int} {hb : Heap} {mg mb : Str → Option Value} {K : Orc} {P : List FnD} {r : Rec} {n : Nat} {nm : Nm} {env : Env} {fm : Fm} {H H' : List O} {σ : List Addr} {s : Shared} {A : Around} {E : Value → Shared → Prop}
variable {v : V}

theorem csr_no_cell {names : Nm} {csl : List CS} (c : CSRs nm names csl) : ∀ x ∈ names, x.2 ≠ NameKind.cell := by
  induction c with
  | nil => intro x hx; cases hx
  | cons h1 _ ih =>
    intro x hx
    rcases List.mem_cons.mp hx with rfl | hx
    · cases h1 <;> simp
    · exact ih x hx

theorem iter_self {it jt : Addr} {I0 : It} {Q : Value → Shared → Prop} {σ : List Addr} (x : ItR σ s.heap it jt I0) (h : Q (.ref it) s) : wpAny (model prog w) A (pyIter (.ref it)) Q E s := by
  cases I0 with
  | rng a n => exact wpAny_pyIter_rangeiter x.2 h
  | lst m i => obtain ⟨_, l, _, hit⟩ := x; exact wpAny_pyIter_listiter hit h
  | enm m i => obtain ⟨_, l, old, _, he, _⟩ := x; exact wpAny_pyIter_enum he h

/-- the loop -/
theorem S_compLoop (IH : Sound prog w ρ hb r n) (hA : OkA n A) {cenv : Env} {fz : Nat} {elt target iter : PySem.Expr} {ifs : List PySem.Expr} {sc : Scope} {p : Pos} {tgs : List Tg} {pr : Bool} {ifx : List X} {ex : X} {it jt D : Addr} {σ0 : List Addr} {h1 : Heap} {ys : List V} {Hf : List O}
    (tp : TP nm target tgs pr) (cf : CEs nm ifs ifx) (ce : CE nm elt ex) (hfz : fz = σ0.length) (hD : D ≠ cenv.locals) (hDX : D ∉ [it, jt]) {R : Result → Shared → Prop}
    (k : ∀ h' tk σ' fm' ys' c, 1 ≤ tk → Inv ρ hb nm cenv fm' Hf σ' h' → Lp σ0 h1 cenv.locals [it, jt, D] σ' h' → D ∉ σ' → h'.get? D = some (listOf (List.toArray ys') c) → VRs ρ σ' ys ys' → R (.ok .next) { s with heap := h', toks := tk })
    (fuel : Nat) : ∀ {I0 : It} {fm : Fm} {acc : List V} {acc' : List Value} {H : List O} {σ : List Addr} {h : Heap} {tk c : Nat}, 1 ≤ tk → fm.fz = fz → Inv ρ hb nm cenv fm H σ h → Lp σ0 h1 cenv.locals [it, jt, D] σ h → ItR σ h it jt I0 → OwnX hb {} cenv σ [it, jt, D] →
      h.get? D = some (listOf (List.toArray acc') c) → VRs ρ σ acc acc' → compN r tgs pr ifx ex fuel I0 fm acc H = some (ys, Hf) →
      codeAny (model prog w) A (.compLoop (.ListComp elt [⟨target, iter, ifs, 0⟩] sc p) 0 (.ref it) (.ref D) cenv) R { s with heap := h, toks := tk } := by
  intro I0 fm acc acc' H σ h tk c htk hf I L hit ox hacc hva hw
  refine codeAny_compLoop_any (fun kk s' => ∃ h' tk σ' fm' Hc I1 ac av c, s' = { s with heap := h', toks := tk } ∧ 1 ≤ tk ∧ fm'.fz = fz ∧ Inv ρ hb nm cenv fm' Hc σ' h' ∧ Lp σ0 h1 cenv.locals [it, jt, D] σ' h' ∧ ItR σ' h' it jt I1 ∧ OwnX hb {} cenv σ' [it, jt, D] ∧
    h'.get? D = some (listOf (List.toArray av) c) ∧ VRs ρ σ' ac av ∧ compN r tgs pr ifx ex kk I1 fm' ac Hc = some (ys, Hf)) ?_ fuel ⟨h, tk, σ, fm, H, I0, acc, acc', c, rfl, htk, hf, I, L, hit, ox, hacc, hva, hw⟩
  rintro kk s' ⟨h', tk, σ', fm', Hc, I1, ac, av, c, rfl, htk, hf, I', L', hit, ox, hacc, hva, hw⟩
  have sub2 : ∀ {σ' : List Addr} {h'' : Heap}, OwnX hb {} cenv σ' [it, jt, D] → OwnX hb (mask [it, jt] h'') cenv σ' [it, jt] := fun {σ' h''} o =>
    ⟨fun x hx => o.s x (by simp at hx ⊢; rcases hx with rfl | rfl <;> simp), fun hx => o.loc (by simp at hx ⊢; rcases hx with q | q <;> simp [q]), fun x hx => o.b x (by simp at hx ⊢; rcases hx with rfl | rfl <;> simp), fun x hx => mask_in hx⟩
  cases kk with
  | zero => simp [compN] at hw
  | succ kk =>
    simp only [compN] at hw
    split at hw
    · rename_i u1 u2 q1
      cases hw
      refine S_next_end (s := { s with heap := h', toks := tk }) hA.1 I' hit q1 fun h2 hk => ?_
      have ox2 := sub2 (h'' := h') ox
      exact k h2 tk σ' fm' av c htk (I'.keptX ox2 hk) (L'.kept fun b o hb e => hk b o (fun z => hb (by simp at z ⊢; rcases z with q | q <;> simp [q])) e) (ox.s D (by simp)) (hk D _ hDX hacc) hva
    · rename_i v u I2 q1
      split at hw
      · rename_i fm2 H2 q2
        have ox2 := sub2 (h'' := h') ox
        have st0 : Step cenv fm'.fz σ' (mask [it, jt] h') σ' h' := ⟨⟨[], by simp, by simp⟩, fun b o _ _ e => by
          by_cases hb : b ∈ [it, jt]
          · rw [mask_in hb] at e; cases e
          · rwa [mask_out hb] at e⟩
        refine S_turn (s := { s with heap := h', toks := tk }) hA.1 tp I' hit ox2 st0 q1 q2 fun h2 t2 hle hf2 I2' st2 hit2 => ?_
        have ht2 : 1 ≤ t2 := Nat.le_trans htk hle
        have D2 : h2.get? D = some (listOf (List.toArray av) c) := st2.keep D _ hD (fun n _ q => ox.s D (by simp) (List.mem_of_getElem? q)) (by rw [mask_out hDX]; exact hacc)
        have L2 : Lp σ0 h1 cenv.locals [it, jt, D] σ' h2 := by
          rw [hf, hfz] at st2
          exact L'.step st2 (fun x hx => by simp at hx ⊢; rcases hx with rfl | rfl <;> simp) rfl I2'.loc fun x hx => ox.s x hx
        -- one further step of the frame
        have go : ∀ {σa σb : List Addr} {ha hb' : Heap} {Ha Hb : List O} {ca : Nat} {vs : List Value} {I3 : It}, Inv ρ hb nm cenv fm2 Ha σa ha → Inv ρ hb nm cenv fm2 Hb σb hb' → Step cenv fm2.fz σa ha σb hb' → Lp σ0 h1 cenv.locals [it, jt, D] σa ha → ItR σa ha it jt I3 → OwnX hb {} cenv σa [it, jt, D] →
            ha.get? D = some (listOf (List.toArray vs) ca) → Lp σ0 h1 cenv.locals [it, jt, D] σb hb' ∧ ItR σb hb' it jt I3 ∧ OwnX hb {} cenv σb [it, jt, D] ∧ hb'.get? D = some (listOf (List.toArray vs) ca) := by
          intro σa σb ha hb' Ha Hb ca vs I3 Ia Ib st La hita oxa hDa
          have live : ∀ x ∈ [it, jt, D], ∃ o, ha.get? x = some o := fun x hx => by
            rcases List.mem_cons.mp hx with rfl | hx
            · exact hita.live _ (by simp)
            · rcases List.mem_cons.mp hx with rfl | hx
              · exact hita.live _ (by simp)
              · simp at hx; subst hx; exact ⟨_, hDa⟩
          have oxb := oxa.ext st live
          refine ⟨?_, hita.step (hb := hb) (h0 := mask [it, jt] ha) (sub2 oxa) st, oxb, st.keep D _ hD (fun n _ q => oxa.s D (by simp) (List.mem_of_getElem? q)) hDa⟩
          rw [hf2, hf, hfz] at st
          exact La.step (Y := []) st (fun x hx => by cases hx) rfl Ib.loc oxb.s
        split at hw
        · rename_i H3 q3
          refine tests_sound (s := { s with heap := h2, toks := t2 }) IH hA cf ht2 I2' q3 fun h3 t3 σ3 I3 st3 ht3 => ?_
          obtain ⟨L3, hit3, ox3, D3⟩ := go I2' I3 st3 L2 hit2 ox D2
          have hv3 : VRs ρ σ3 ac av := by obtain ⟨τ, rfl, _⟩ := st3.ext; exact hva.ext
          rw [if_pos rfl]
          split at hw
          · rename_i y H4 q4
            split at hw
            · rename_i hz
              have hz' := Nat.le_of_ble_eq_true hz
              refine IH.ev (s := { s with heap := h3, toks := t3 }) hA ht3 ce I3 q4 fun y' h4 t4 σ4 I4 st4 hy ht4 => ?_
              obtain ⟨L4, hit4, ox4, D4⟩ := go I3 I4 st4 L3 hit3 ox3 D3
              have hv4 : VRs ρ σ4 ac av := by obtain ⟨τ, rfl, _⟩ := st4.ext; exact hv3.ext
              refine append_call (s := { s with heap := h4, toks := t4 }) D4 (by rw [hv4.length, sizeLine_eq]; omega) ?_
              obtain ⟨c5, hc5⟩ := upd_list D4 (fun y => y.push y') (us := av ++ [y']) (by simp)
              have kk5 : ∀ b o, b ∉ [D] → h4.get? b = some o → (h4.update D (Obj.mapSeq fun y => y.push y')).get? b = some o := fun b o hb e => ((Heap.SameBut.update h4 D (Obj.mapSeq fun y => y.push y')).2 b (by simpa using hb)).trans e
              have oxD : OwnX hb {} cenv σ4 [D] := ⟨fun x hx => ox4.s x (by simp at hx ⊢; simp [hx]), fun hx => ox4.loc (by simp at hx ⊢; simp [hx]), fun x hx => ox4.b x (by simp at hx ⊢; simp [hx]), fun x hx => none_empty x⟩
              refine ⟨kk, Nat.lt_succ_self _, h4.update D (Obj.mapSeq fun y => y.push y'), t4, σ4, fm2, H4, I2, ac ++ [y], av ++ [y'], c5, rfl, ht4, hf2.trans hf, I4.keptX oxD kk5, L4.kept fun b o hb e => kk5 b o (fun z => hb (by simp at z ⊢; simp [z])) e, ?_, ox4, hc5, hv4.snoc hy, hw⟩
              have := hit4.kept (h' := h4.update D (Obj.mapSeq fun y => y.push y')) (fun b o hb e => kk5 b o (fun z => hDX (by simp at z; rw [← z]; exact hb)) e) []
              simpa using this
            · cases hw
          · cases hw
        · rename_i H3 q3
          refine tests_sound (s := { s with heap := h2, toks := t2 }) IH hA cf ht2 I2' q3 fun h3 t3 σ3 I3 st3 ht3 => ?_
          obtain ⟨L3, hit3, ox3, D3⟩ := go I2' I3 st3 L2 hit2 ox D2
          have hv3 : VRs ρ σ3 ac av := by obtain ⟨τ, rfl, _⟩ := st3.ext; exact hva.ext
          rw [if_neg Bool.false_ne_true]
          exact ⟨kk, Nat.lt_succ_self _, h3, t3, σ3, fm2, H3, I2, ac, av, c, rfl, ht3, hf2.trans hf, I3, L3, hit3, ox3, D3, hv3, hw⟩
        · cases hw
      · cases hw
    · cases hw
end
end Mine
end
section
open PySem PySem.Calls PyProof.Rows PySem.W PySem.SeqAt
namespace Mine
set_option maxRecDepth 10000
set_option autoImplicit false
set_option linter.unusedVariables false

section
variable {prog : Program} {w : World} {ρ : Nat → Int} {hb : Heap} {mg mb : Str → Option Value} {K : Orc} {P : List FnD} {r : Rec} {n : Nat} {nm : Nm} {env : Env} {fm fm1 : Fm} {H H' : List O} {σ : List Addr} {s : Shared} {A : Around} {E : Value → Shared → Prop}
variable {v : V}

theorem slotsExt {σ σ' : List Addr} {h : Heap} {m : Str → Option Value} {cl : List (Str × Addr)} {nm : Nm} {sl : List Sl} (x : SlRs ρ σ m cl nm sl) (y : ∃ τ, σ' = σ ++ τ ∧ ∀ a ∈ τ, h.get? a = none) : SlRs ρ σ' m cl nm sl := by
  obtain ⟨τ, rfl, _⟩ := y; exact x.ext

theorem S_compCore (G : GF hb mg mb) (IH : Sound prog w ρ hb r n) (hA : OkA n A) (ht : 1 ≤ s.toks) {elt target iter : PySem.Expr} {ifs : List PySem.Expr} {sc : Scope} {p pos : Pos} {tgs : List Tg} {pr : Bool} {itx : X} {ifx : List X} {ex : X} {csl : List CS}
    (hk1 : sc.kind = .function) (hnd : (sc.names.map (·.1)).Nodup) (hcs : CSRs nm sc.names csl) (hs : ∀ env v, foldedSetIterable iter env v = pure v) (tp : TP (relabN nm sc.names) target tgs pr) (ci : CE nm iter itx) (cf : CEs (relabN nm sc.names) ifs ifx) (ce : CE (relabN nm sc.names) elt ex)
    (I : Inv ρ hb nm env fm H σ s.heap) (h : evF K P r fm H (.comp ex tgs pr itx ifx csl) = some (v, H')) {use : Option (Value → Sem Unit)} {Q : Value → Shared → Prop}
    (k : ∀ D C h' tk σ', 1 ≤ tk → Inv ρ hb nm env fm H' σ' h' → Step env fm.fz σ s.heap σ' h' → VR ρ σ' v (.ref D) → (C ∉ σ' ∧ C ≠ env.locals ∧ hb.get? C = none ∧ s.heap.get? C = none) → (∃ m, h'.Ns C m) → compPost (model prog w) A E use Q (.ref D) C (.ok .next) { s with heap := h', toks := tk }) :
    wpAny (model prog w) A (comprehension (.ListComp elt [⟨target, iter, ifs, 0⟩] sc p) sc env pos (newList []) false (eval iter env) use) Q E s := by
  simp only [evF] at h
  split at h
  · rename_i I0 H0 q0
    split at h
    · rename_i sl q1
      split at h
      · rename_i ys H2 q2
        cases h
        obtain ⟨m0, hn0, hm0⟩ := I.ns
        obtain ⟨cl, hcl, hcl2⟩ := closure_ok (env := env) hnd (comp_frees hcs q1 hm0)
        have hnames : ∀ x ∈ sc.names, x.2 = .local → sc.names.lookup x.1 = some .local := fun x hx e => by rw [lookup_nodup hnd x hx, e]
        refine wpAny_comprehension_free (g := ⟨target, iter, ifs, 0⟩) (gs := []) rfl (hs env) hcl hk1 hnames (S_iter G IH hA ht ci I q0 fun h0 t0 σ0 it jt ht0 I0' st0 hit0 ox0 => ?_)
        refine wpAny_newObj_type (wpAny_newFunctionEnv (csr_no_cell hcs) (by intro y hy; simp at hy) (fun h₁ hns₁ hsb₁ => ?_) hk1)
        dsimp only at hns₁ hsb₁ ⊢
        generalize hH2 : h0.push { cls := .type "list", dict := none, data := .seq ([] : List Value).toArray } = G2 at hns₁ hsb₁ ⊢
        have hC : G2.objs.size = h0.objs.size + 1 := by rw [← hH2, Heap.size_push]
        have hDC : h0.objs.size ≠ G2.objs.size := by rw [hC]; exact Nat.ne_of_lt (Nat.lt_succ_self _)
        have below : ∀ b, b < h0.objs.size → b ≠ G2.objs.size := fun b hb => by rw [hC]; exact Nat.ne_of_lt (Nat.lt_succ_of_lt hb)
        have old : ∀ b o, h0.get? b = some o → h₁.get? b = some o := fun b o e => hsb₁.extBut b o (below b (Heap.lt_size e)) (Heap.get?_push_of_some _ (hH2 ▸ Heap.get?_push_of_some _ e))
        have hD0 : h0.get? h0.objs.size = none := none_ge (Nat.le_refl _)
        have hC0 : h0.get? G2.objs.size = none := none_ge (by rw [hC]; exact Nat.le_succ _)
        have hDo : h₁.get? h0.objs.size = some (listOf (List.toArray []) 0) := hsb₁.extBut _ _ hDC (Heap.get?_push_of_some _ (hH2 ▸ Heap.get?_push_size _ rfl))
        have hlive := hit0.live
        have hDX : h0.objs.size ∉ [it, jt] := fun hm => by obtain ⟨o, e⟩ := hlive _ hm; rw [hD0] at e; cases e
        have Ic : Inv ρ hb (relabN nm sc.names) (compEnvC sc cl G2.objs.size env) ⟨sl, H0.length⟩ H0 σ0 h₁ :=
          { kind := hk1
            names := relabel_names I.names I.kind
            glob := I.glob
            bt := I.bt
            base := fun b o e => old b o (I0'.base b o e)
            nd := by rw [relabN_fst]; exact hnd
            ns := ⟨_, hns₁, slotsExt (comp_slots hcs q1 hm0 hcl2) st0.ext⟩
            hr := ⟨I0'.hr.len, fun n o a e e' => by have := (I0'.hr.obj n o a e e').ext (τ := []) (h' := h₁) fun ob q => old a ob q; simpa using this⟩
            nodup := I0'.nodup
            loc := I0'.sdead hC0
            lb := I0'.hbdead hC0
            mtb := fun n a hn e => by
              have := (List.getElem?_eq_some_iff.mp e).1
              rw [I0'.hr.len] at this
              exact absurd this (Nat.not_lt.mpr hn)
            fzle := Nat.le_refl _ }
        have oxc : OwnX hb {} (compEnvC sc cl G2.objs.size env) σ0 [it, jt, h0.objs.size] :=
          ⟨fun x hx => by
              rcases List.mem_cons.mp hx with rfl | hx
              · exact ox0.s _ (by simp)
              · rcases List.mem_cons.mp hx with rfl | hx
                · exact ox0.s _ (by simp)
                · simp at hx; subst hx; exact I0'.sdead hD0,
            fun hx => by
              rcases List.mem_cons.mp hx with q | hx
              · obtain ⟨o, e⟩ := hlive it (by simp)
                rw [← q] at e
                have : h0.get? G2.objs.size = some o := e
                rw [hC0] at this; cases this
              · rcases List.mem_cons.mp hx with q | hx
                · obtain ⟨o, e⟩ := hlive jt (by simp)
                  rw [← q] at e
                  have : h0.get? G2.objs.size = some o := e
                  rw [hC0] at this; cases this
                · simp at hx; exact hDC hx.symm,
            fun x hx => by
              rcases List.mem_cons.mp hx with rfl | hx
              · exact ox0.b _ (by simp)
              · rcases List.mem_cons.mp hx with rfl | hx
                · exact ox0.b _ (by simp)
                · simp at hx; subst hx; exact I0'.hbdead hD0,
            fun x _ => none_empty x⟩
        have hit1 : ItR σ0 h₁ it jt I0 := by
          have := hit0.kept (h' := h₁) (fun b o _ e => old b o e) []
          simpa using this
        have ht1 : 1 ≤ t0 + ([] : List (Str × Value)).length := ht0
        have fin : ∀ h' tk σ' fm' ys' c, 1 ≤ tk → Inv ρ hb (relabN nm sc.names) (compEnvC sc cl G2.objs.size env) fm' H2 σ' h' → Lp σ0 h₁ G2.objs.size [it, jt, h0.objs.size] σ' h' → h0.objs.size ∉ σ' → h'.get? h0.objs.size = some (listOf (List.toArray ys') c) → VRs ρ σ' ys ys' →
            compPost (model prog w) A E use Q (.ref h0.objs.size) G2.objs.size (.ok .next) { s with heap := h', toks := tk } := by
          intro h' tk σ' fm' ys' c htk I2 L hDs hDo' hv
          obtain ⟨τ, hτ, fτ⟩ := L.ext
          have f0 : ∀ a, h₁.get? a = none → h0.get? a = none := fun a e => by
            cases q : h0.get? a with
            | none => rfl
            | some o => rw [old a o q] at e; cases e
          have fs : ∀ a, h0.get? a = none → s.heap.get? a = none := fun a e => by
            cases q : s.heap.get? a with
            | none => rfl
            | some o => obtain ⟨o', q'⟩ := st0.live I0' q; rw [e] at q'; cases q'
          have hCl : G2.objs.size ≠ env.locals := I0'.ldead hC0
          have hkeep : ∀ b o, b ∉ [it, jt] → h0.get? b = some o → h'.get? b = some o := fun b o hb e =>
            L.keep b o (fun q => by rw [q, hC0] at e; cases e) (fun q => by
              rcases List.mem_cons.mp q with q | q
              · exact hb (by simp [q])
              · rcases List.mem_cons.mp q with q | q
                · exact hb (by simp [q])
                · simp at q; rw [q, hD0] at e; cases e) (old b o e)
          have Ib : Inv ρ hb nm env fm H2 σ' h' := I0'.back I2 ⟨τ, hτ, fun a ha => f0 a (fτ a ha)⟩ fun o e => hkeep _ o ox0.loc e
          have Ia := Ib.adopt (o := .list ys) hDs (I0'.ldead hD0) (I0'.hbdead hD0) ⟨ys', c, hDo', hv.ext⟩
          refine k _ _ h' tk (σ' ++ [h0.objs.size]) htk Ia ?_ (.ref _ _ (get_len I2.hr.len)) ⟨?_, hCl, I0'.hbdead hC0, fs _ hC0⟩ ?_
          · refine Step.more I0' st0 ⟨τ ++ [h0.objs.size], by rw [hτ, List.append_assoc], fun a ha => ?_⟩ ox0.h0 hkeep
            rcases List.mem_append.mp ha with q | q
            · exact fs a (f0 a (fτ a q))
            · simp at q; subst q; exact fs _ hD0
          · intro hm
            rcases List.mem_append.mp hm with q | q
            · exact I2.loc q
            · simp at q; exact hDC q.symm
          · obtain ⟨m, a, b⟩ := I2.ns; exact ⟨m, a⟩
        have loop : codeAny (model prog w) A (.compLoop (.ListComp elt [⟨target, iter, ifs, 0⟩] sc p) 0 (.ref it) (.ref h0.objs.size) (compEnvC sc cl G2.objs.size env)) (compPost (model prog w) A E use Q (.ref h0.objs.size) G2.objs.size) { s with heap := h₁, toks := t0 + ([] : List (Str × Value)).length } :=
          S_compLoop (s := s) (cenv := compEnvC sc cl G2.objs.size env) IH hA tp cf ce (fz := σ0.length) (h1 := h₁) rfl hDC hDX fin 70 (fm := ⟨sl, H0.length⟩) ht1 I0'.hr.len.symm Ic ⟨⟨[], by simp, by simp⟩, fun b o _ _ e => e⟩ hit1 oxc hDo .nil q2
        exact codeAny_compStart_list loop (iter_self hit1 loop)
      · cases h
    · cases h
  · cases h

theorem keptC {C : Addr} {h' h'' : Heap} (hs : Heap.SameBut C h' h'') : ∀ b o, b ∉ [C] → h'.get? b = some o → h''.get? b = some o := fun b o hb e => (hs.2 b (by simpa using hb)).trans e

theorem S_comp {Q : Value → Shared → Prop} (G : GF hb mg mb) (IH : Sound prog w ρ hb r n) (hA : OkA n A) (ht : 1 ≤ s.toks) {e : PySem.Expr} {tgs : List Tg} {pr : Bool} {itx : X} {ifx : List X} {ex : X} {csl : List CS}
    (ce : CE nm e (.comp ex tgs pr itx ifx csl)) (I : Inv ρ hb nm env fm H σ s.heap) (h : evF K P r fm H (.comp ex tgs pr itx ifx csl) = some (v, H')) (k : Post ρ hb nm env fm σ s H' v Q) : wpAny (model prog w) A (eval e env) Q E s := by
  cases ce with
  | comp hk1 hnd hcs hs tp ci cf ce =>
    rw [eval_ListComp]
    refine S_compCore G IH hA ht hk1 hnd hcs hs tp ci cf ce I h (use := none) fun D C h' tk σ' htk I' st hv hC hN => ?_
    obtain ⟨m, hn⟩ := hN
    refine ⟨m, hn, fun h'' hs'' => ?_⟩
    have ox : OwnX hb s.heap env σ' [C] := ⟨fun x hx => by simp at hx; subst hx; exact hC.1, fun hx => by simp at hx; exact hC.2.1 hx.symm, fun x hx => by simp at hx; subst hx; exact hC.2.2.1, fun x hx => by simp at hx; subst hx; exact hC.2.2.2⟩
    exact k _ h'' tk σ' (I'.keptX ox (keptC hs'')) (st.keptX ox (keptC hs'')) hv

theorem S_asgC {o : R} {Q : Flow → Shared → Prop} (G : GF hb mg mb) (IH : Sound prog w ρ hb r n) (hA : OkA n A) (ht : 1 ≤ s.toks) {elt : PySem.Expr} {gens : List Comprehension} {sc : Scope} {x : Str} {p q q' : Pos} {i : Nat} {c : X}
    (hs : ∀ env : Env, env.scope.names = nm → env.scope.kind = .function → swapsWith (.ListComp elt gens sc q') (some (.Name x q)) p.line env = pure true) (tr : TR nm (.Name x q) (.loc i)) (ce : CE nm (.ListComp elt gens sc q') c)
    (hcomp : ∃ a b c' d e f, c = .comp a b c' d e f)
    (I : Inv ρ hb nm env fm H σ s.heap) (h : stF (stepR K P r) fm H (.asg (.loc i) c) = some (o, fm1, H')) (k : PostS ρ hb nm env fm σ s H' fm1 o Q) : wpAny (model prog w) A (exec (.Assign [.Name x q] (.ListComp elt gens sc q') p) env) Q E s := by
  obtain ⟨a, b, c', d, e, f, rfl⟩ := hcomp
  simp only [stF, stepR] at h
  split at h
  · rename_i v H1 q1
    split at h
    · rename_i fm2 H2 q2
      cases h
      cases ce with
      | comp hk1 hnd hcs hs' tp ci cf ce =>
        rw [exec_Assign_Name_used (hs := hs env I.names I.kind)]
        refine wpAny_bind (wpAny_standAt (wpAny_bind ?_))
        show wpAny _ A (do let _ ← comprehension (.ListComp elt [⟨_, _, _, 0⟩] sc q') sc env _ (newList []) false (eval _ env) (some (assign (.Name x q) env))) _ _ s
        refine wpAny_bind (wpAny_mono (S_compCore G IH hA ht hk1 hnd hcs hs' tp ci cf ce I q1 (use := some (assign (.Name x q) env)) (Q := fun _ s' => Q .next s') fun D C h' tk σ' htk I' st hv hC hN => ?_) (fun _ s' hq => wpAny_pure (wpAny_pure hq)) fun _ _ e => e)
        show wpAny _ A (assign (.Name x q) env (.ref D)) _ _ _
        refine S_put (s := { s with heap := h', toks := tk }) tr I' hv q2 fun h2 tk2 _ hf I2 st2 => ?_
        obtain ⟨m, hn⟩ := hN
        have hnC : h2.Ns C m := hn.at fun o e => st2.keep C o hC.2.1 (fun n _ z => hC.1 (List.mem_of_getElem? z)) e
        refine ⟨m, hnC, fun h3 hs3 => ?_⟩
        have ox : OwnX hb s.heap env σ' [C] := ⟨fun x hx => by simp at hx; subst hx; exact hC.1, fun hx => by simp at hx; exact hC.2.1 hx.symm, fun x hx => by simp at hx; subst hx; exact hC.2.2.1, fun x hx => by simp at hx; subst hx; exact hC.2.2.2⟩
        exact k .next h3 tk2 σ' hf (I2.keptX ox (keptC hs3)) ((Step.trans I' st st2).keptX ox (keptC hs3)) trivial
    · cases h
  · cases h
end
end Mine
end
section
open PySem PySem.Calls PyProof.Rows PySem.W PySem.SeqAt
namespace Mine
set_option maxRecDepth 10000
set_option autoImplicit false
set_option linter.unusedVariables false

def psOk (params : List Str) : (Str × NameKind) → PS → Bool
  | (x, .local), .par k => params[k]? == some x
  | (x, .local), .loc => !params.contains x
  | (x, .cell), .parc k => params[k]? == some x
  | (x, .cell), .cel => !params.contains x
  | (_, .globalImplicit), .oth => true
  | _, _ => false
def psOks (params : List Str) : Nm → List PS → Bool
  | [], [] => true
  | p :: ps, s :: ss => psOk params p s && psOks params ps ss
  | _, _ => false

theorem bindL_miss {kindOf : Str → Option NameKind} {x : Str} : ∀ (ps : List Str) (vs : List Value) (m : Str → Option Value), x ∉ ps → bindL kindOf (ps.zip vs) m x = m x
  | [], _, _, _ => rfl
  | _ :: _, [], _, _ => rfl
  | p :: ps, v :: vs, m, h => by
    simp only [List.mem_cons, not_or] at h
    show bindL kindOf (ps.zip vs) _ x = m x
    rw [bindL_miss ps vs _ h.2]
    split
    · simp [h.1]
    · rfl
theorem bindL_get {kindOf : Str → Option NameKind} {x : Str} (hk : kindOf x = some .local) : ∀ (ps : List Str) (vs : List Value) (m : Str → Option Value) (k : Nat), ps.Nodup → ps.length = vs.length → ps[k]? = some x → bindL kindOf (ps.zip vs) m x = vs[k]?
  | [], _, _, _, _, _, h => by simp at h
  | _ :: _, [], _, _, _, h, _ => by simp at h
  | p :: ps, v :: vs, m, k, nd, hl, h => by
    simp only [List.nodup_cons] at nd
    show bindL kindOf (ps.zip vs) _ x = _
    cases k with
    | zero =>
      simp at h
      subst h
      rw [bindL_miss ps vs _ nd.1, if_pos hk]
      simp
    | succ k =>
      rw [bindL_get hk ps vs _ k nd.2 (by simpa using hl) (by simpa using h)]
      simp
theorem bindC_miss {kindOf : Str → Option NameKind} {x : Str} : ∀ (ps : List Str) (vs : List Value) (m : Str → Option Value), x ∉ ps → bindC kindOf (ps.zip vs) m x = m x
  | [], _, _, _ => rfl
  | _ :: _, [], _, _ => rfl
  | p :: ps, v :: vs, m, h => by
    simp only [List.mem_cons, not_or] at h
    show bindC kindOf (ps.zip vs) _ x = m x
    rw [bindC_miss ps vs _ h.2]
    split
    · rfl
    · simp [h.1]
theorem bindC_get {kindOf : Str → Option NameKind} {x : Str} (hk : kindOf x = some .cell) : ∀ (ps : List Str) (vs : List Value) (m : Str → Option Value) (k : Nat), ps.Nodup → ps.length = vs.length → ps[k]? = some x → bindC kindOf (ps.zip vs) m x = vs[k]?
  | [], _, _, _, _, _, h => by simp at h
  | _ :: _, [], _, _, _, h, _ => by simp at h
  | p :: ps, v :: vs, m, k, nd, hl, h => by
    simp only [List.nodup_cons] at nd
    show bindC kindOf (ps.zip vs) _ x = _
    cases k with
    | zero =>
      simp at h
      subst h
      rw [bindC_miss ps vs _ nd.1, if_neg (by rw [hk]; simp)]
      simp
    | succ k =>
      rw [bindC_get hk ps vs _ k nd.2 (by simpa using hl) (by simpa using h)]
      simp

/-- the cells' addresses, in order -/
def cellAts : Nat → Nm → List (Str × Addr)
  | _, [] => []
  | a, (x, k) :: r => if k == .cell then (x, a) :: cellAts (a + 1) r else cellAts a r
theorem cellsFrom_ats : ∀ (nm : Nm) (a : Nat) (acc : List (Str × Addr)), cellsFrom a nm acc = (cellAts a nm).reverse ++ acc
  | [], a, acc => rfl
  | (x, k) :: r, a, acc => by
    unfold cellsFrom cellAts
    split
    · rw [cellsFrom_ats r]; simp
    · exact cellsFrom_ats r a acc
theorem cellAts_sub : ∀ (nm : Nm) (a : Nat), ∀ x ∈ (cellAts a nm).map (·.1), x ∈ nm.map (·.1)
  | [], a, x, h => by cases h
  | (y, k) :: r, a, x, h => by
    unfold cellAts at h
    split at h
    · simp only [List.map_cons, List.mem_cons] at h ⊢
      rcases h with h | h
      · exact .inl h
      · exact .inr (cellAts_sub r _ x h)
    · simp only [List.map_cons, List.mem_cons]
      exact .inr (cellAts_sub r _ x h)
theorem cellAts_nodup : ∀ (nm : Nm) (a : Nat), (nm.map (·.1)).Nodup → ((cellAts a nm).map (·.1)).Nodup
  | [], a, _ => List.nodup_nil
  | (y, k) :: r, a, h => by
    simp only [List.map_cons, List.nodup_cons] at h
    unfold cellAts
    split
    · simp only [List.map_cons, List.nodup_cons]
      exact ⟨fun q => h.1 (cellAts_sub r _ y q), cellAts_nodup r _ h.2⟩
    · exact cellAts_nodup r _ h.2
theorem cells_lookup {nm : Nm} {a : Nat} {x : Str} {c : Addr} (nd : (nm.map (·.1)).Nodup) (h : (x, c) ∈ cellAts a nm) : (cellsFrom a nm []).lookup x = some c := by
  rw [cellsFrom_ats, List.append_nil]
  refine lookup_of_mem_nodup ?_ (List.mem_reverse.mpr h)
  rw [List.map_reverse]
  exact (List.reverse_perm _).nodup_iff.mpr (cellAts_nodup nm a nd)
theorem cellAts_ge : ∀ (nm : Nm) (a : Nat), ∀ c ∈ (cellAts a nm).map (·.2), a ≤ c
  | [], a, c, h => by cases h
  | (y, k) :: r, a, c, h => by
    unfold cellAts at h
    split at h
    · simp only [List.map_cons, List.mem_cons] at h
      rcases h with h | h
      · rw [h]; exact Nat.le_refl _
      · exact Nat.le_of_succ_le (cellAts_ge r (a + 1) c h)
    · exact cellAts_ge r a c h
theorem cellAts_nodup2 : ∀ (nm : Nm) (a : Nat), ((cellAts a nm).map (·.2)).Nodup
  | [], a => List.nodup_nil
  | (y, k) :: r, a => by
    unfold cellAts
    split
    · simp only [List.map_cons, List.nodup_cons]
      exact ⟨fun q => Nat.not_succ_le_self _ (cellAts_ge r (a + 1) a q), cellAts_nodup2 r _⟩
    · exact cellAts_nodup2 r _

section
variable {ρ : Nat → Int} {params : List Str} {vs : List V} {vals : List Value} {m cm : Str → Option Value} {cl : List (Str × Addr)} {h : Heap}

theorem VRs.getO {σ : List Addr} (hv : VRs ρ σ vs vals) (k : Nat) : VO ρ σ vs[k]? vals[k]? := by
  cases q : vs[k]? with
  | none =>
    have : vals[k]? = none := by
      have := hv.length
      simp at q ⊢; omega
    rw [this]; trivial
  | some x =>
    obtain ⟨v, e, r⟩ := hv.get q
    rw [e]; exact r

theorem mkF_sound {full : Nm} (hml : ∀ x (k : Nat), (x, NameKind.local) ∈ full → params[k]? = some x → m x = vals[k]?) (hmm : ∀ x, x ∉ params → m x = none) (hcl : ∀ x (k : Nat), (x, NameKind.cell) ∈ full → params[k]? = some x → cm x = vals[k]?) (hcm : ∀ x, x ∉ params → cm x = none) :
    ∀ (nm : Nm) (ps : List PS) (a : Nat) (σ : List Addr) (H : List O), (∀ x ∈ nm, x ∈ full) → psOks params nm ps = true → VRs ρ σ vs vals → HR ρ σ H h → (∀ x c, (x, c) ∈ cellAts a nm → cl.lookup x = some c ∧ h.IsCell c (cm x)) →
      SlRs ρ (σ ++ (cellAts a nm).map (·.2)) m cl nm (mkF vs ps H).1 ∧ HR ρ (σ ++ (cellAts a nm).map (·.2)) (mkF vs ps H).2 h
  | [], [], a, σ, H, _, _, hv, hr, _ => by
    refine ⟨.nil, ?_⟩
    show HR ρ (σ ++ []) H h
    rw [List.append_nil]; exact hr
  | [], _ :: _, _, _, _, _, h, _, _, _ => by simp [psOks] at h
  | _ :: _, [], _, _, _, _, h, _, _, _ => by simp [psOks] at h
  | (x, k) :: nm, p :: ps, a, σ, H, hsub, hp, hv, hr, hc => by
    simp only [psOks, Bool.and_eq_true] at hp
    have hsub' : ∀ y ∈ nm, y ∈ full := fun y hy => hsub y (.tail _ hy)
    cases k with
    | «local» =>
      have hc' : ∀ y c, (y, c) ∈ cellAts a nm → cl.lookup y = some c ∧ h.IsCell c (cm y) := fun y c hy => hc y c hy
      obtain ⟨g1, g2⟩ := mkF_sound hml hmm hcl hcm nm ps a σ H hsub' hp.2 hv hr hc'
      cases p with
      | par kk =>
        have e := hp.1
        simp only [psOk, beq_iff_eq] at e
        refine ⟨.cons ?_ g1, g2⟩
        show VO ρ _ vs[kk]? (m x)
        rw [hml x kk (hsub _ (.head _)) e]
        exact (hv.ext (τ := (cellAts a nm).map (·.2))).getO kk
      | loc =>
        have e := hp.1
        simp only [psOk, Bool.not_eq_true', List.contains_eq_mem, decide_eq_false_iff_not] at e
        refine ⟨.cons ?_ g1, g2⟩
        show VO ρ _ none (m x)
        rw [hmm x e]; trivial
      | _ => have e := hp.1; simp [psOk] at e
    | globalImplicit =>
      have hc' : ∀ y c, (y, c) ∈ cellAts a nm → cl.lookup y = some c ∧ h.IsCell c (cm y) := fun y c hy => hc y c hy
      obtain ⟨g1, g2⟩ := mkF_sound hml hmm hcl hcm nm ps a σ H hsub' hp.2 hv hr hc'
      cases p with
      | oth => exact ⟨.cons trivial g1, g2⟩
      | _ => have e := hp.1; simp [psOk] at e
    | cell =>
      have hat : cellAts a ((x, NameKind.cell) :: nm) = (x, a) :: cellAts (a + 1) nm := rfl
      have hc' : ∀ y c, (y, c) ∈ cellAts (a + 1) nm → cl.lookup y = some c ∧ h.IsCell c (cm y) := fun y c hy => hc y c (by rw [hat]; exact .tail _ hy)
      obtain ⟨r1, r2⟩ := hc x a (by rw [hat]; exact .head _)
      have grow : ∀ {o : Option V}, VO ρ σ o (cm x) → HR ρ (σ ++ [a]) (H ++ [.cell o]) h := fun {o} ho =>
        ⟨by simp [hr.len], fun n o' b e e' => by
          rcases Nat.lt_or_ge n H.length with hlt | hge
          · rw [List.getElem?_append_left hlt] at e
            rw [List.getElem?_append_left (by rw [hr.len]; exact hlt)] at e'
            exact (hr.obj n o' b e e').ext fun ob q => q
          · have hn : n = H.length := by
              have := (List.getElem?_eq_some_iff.mp e).1
              simp at this; omega
            subst hn
            simp at e
            rw [← hr.len] at e'
            simp at e'
            subst e; subst e'
            exact ⟨cm x, r2, ho.ext⟩⟩
      rw [hat]
      have happ : σ ++ ((x, a) :: cellAts (a + 1) nm).map (·.2) = (σ ++ [a]) ++ (cellAts (a + 1) nm).map (·.2) := by simp
      rw [happ]
      cases p with
      | parc kk =>
        have e := hp.1
        simp only [psOk, beq_iff_eq] at e
        have ho : VO ρ σ vs[kk]? (cm x) := by rw [hcl x kk (hsub _ (.head _)) e]; exact hv.getO kk
        obtain ⟨g1, g2⟩ := mkF_sound hml hmm hcl hcm nm ps (a + 1) (σ ++ [a]) (H ++ [.cell vs[kk]?]) hsub' hp.2 hv.ext (grow ho) hc'
        exact ⟨.cons ⟨a, get_ext (get_len hr.len), r1⟩ g1, g2⟩
      | cel =>
        have e := hp.1
        simp only [psOk, Bool.not_eq_true', List.contains_eq_mem, decide_eq_false_iff_not] at e
        have ho : VO ρ σ none (cm x) := by rw [hcm x e]; trivial
        obtain ⟨g1, g2⟩ := mkF_sound hml hmm hcl hcm nm ps (a + 1) (σ ++ [a]) (H ++ [.cell none]) hsub' hp.2 hv.ext (grow ho) hc'
        exact ⟨.cons ⟨a, get_ext (get_len hr.len), r1⟩ g1, g2⟩
      | _ => have e := hp.1; simp [psOk] at e
    | _ => have e := hp.1; cases p <;> simp [psOk] at e
end
end Mine
end
section
open PySem PySem.Calls PyProof.Rows PySem.W PySem.SeqAt
namespace Mine
set_option maxRecDepth 10000
set_option autoImplicit false
set_option linter.unusedVariables false

structure FnOK (hb : Heap) (mg : Str → Option Value) (f : Str) (fn : FnD) : Prop where
  ex : ∃ (a : Addr) (o : Obj) (fd : FuncData) (body : List PySem.Stmt) (params : List Str) (dv : List Value),
    mg f = some (.ref a) ∧ hb.get? a = some o ∧ o.data = .func fd ∧ fd.body = .stmts body ∧ fd.closure = [] ∧ fd.globals = mainGlobals ∧ fd.builtins = builtinsNs ∧ hb.CodeRec fd.code fd.qualname ∧ fd.scope.kind = .function ∧ fd.scope.isCoroutine = false ∧ fd.scope.isGenerator = false ∧
    (fd.scope.names.map (·.1)).Nodup ∧ params.Nodup ∧ params.length = fn.ar ∧ (∀ x ∈ params, fd.scope.names.lookup x = some .local ∨ fd.scope.names.lookup x = some .cell) ∧ psOks params fd.scope.names fn.sl = true ∧ CSts fd.scope.names body fn.body ∧ (∀ ρ σ, VRs ρ σ fn.dfl dv) ∧
    ∀ s vals, (∀ b o, hb.get? b = some o → s.heap.get? b = some o) → vals.length + dv.length = params.length → BindsTo s fd ⟨vals, []⟩ (params.zip (vals ++ dv))
def FnsOK (hb : Heap) (mg : Str → Option Value) (P : List FnD) : Prop := ∀ (k : Nat) (f : Str) (fn : FnD), fnNames[k]? = some f → P[k]? = some fn → FnOK hb mg f fn

theorem keeper_fn {M : Model} {h : Heap} {a : Addr} {o : Obj} {fd : FuncData} (e : h.get? a = some o) (hd : o.data = .func fd) : Looks M h (keeperOf (.ref a)) Keeper.frame := by
  obtain ⟨c, d, dt, sl⟩ := o
  simp only at hd
  subst hd
  exact (Looks.ld (part := none) e).andThen .now

theorem mem_zip_fst {α β : Type} {l : List α} {l' : List β} {x : α × β} (h : x ∈ l.zip l') : x.1 ∈ l := (List.of_mem_zip h).1

section
variable {prog : Program} {w : World} {ρ : Nat → Int} {hb : Heap} {mg mb : Str → Option Value} {K : Orc} {P : List FnD} {r : Rec} {n : Nat} {nm : Nm} {env : Env} {fm fm1 : Fm} {H H' : List O} {σ : List Addr} {s : Shared} {A : Around} {E : Value → Shared → Prop}
variable {v : V}

theorem cell_isSome {full : Nm} {x : Str} {a : Nat} (nd : (full.map (·.1)).Nodup) (h : full.lookup x = some .cell) : ((cellsFrom a full []).lookup x).isSome = true := by
  have key : ∀ (nm : Nm) (a : Nat), nm.lookup x = some NameKind.cell → ∃ c, (x, c) ∈ cellAts a nm := by
    intro nm
    induction nm with
    | nil => intro a h; simp at h
    | cons p r ih =>
      intro a h
      obtain ⟨y, k⟩ := p
      rw [List.lookup_cons] at h
      unfold cellAts
      cases hy : x == y with
      | true =>
        rw [hy] at h
        cases h
        have := beq_iff_eq.mp hy
        subst this
        exact ⟨a, .head _⟩
      | false =>
        rw [hy] at h
        split
        · obtain ⟨c, hc⟩ := ih (a + 1) h; exact ⟨c, .tail _ hc⟩
        · exact ih a h
  obtain ⟨c, hc⟩ := key full a h
  rw [cells_lookup nd hc]; rfl

theorem S_callB (G : GF hb mg mb) (FS : FnsOK hb mg P) (IH : Sound prog w ρ hb r n) (hA : OkA (n + 1) A) {f : Str} {kk : Nat} {fn : FnD} {vs : List V} {vals : List Value} {sl : List Sl} {H2 H3 : List O} {fm3 : Fm} {Q : Value → Shared → Prop}
    (hf : fnNames[kk]? = some f) (hfn : P[kk]? = some fn) (ht : 1 ≤ s.toks) (I : Inv ρ hb nm env fm H σ s.heap) (hv : VRs ρ σ vs vals) (har : vs.length + fn.dfl.length = fn.ar) (hmk : mkF (vs ++ fn.dfl) fn.sl H = (sl, H2))
    (h : stL r ⟨sl, H.length⟩ H2 fn.body = some (.ret v, fm3, H3)) (k : Post ρ hb nm env fm σ s H3 v Q) :
    ∃ a o fd, mg f = some (.ref a) ∧ hb.get? a = some o ∧ o.data = .func fd ∧ wpAny (model prog w) A (call (.ref a) vals) Q E s := by
  obtain ⟨a, o, fd, body, params, dv, hmg, ho, hd, hbody, hclo, hglob, hbt, hcd, hkind, hco, hgen, hnd, hpn, hpl, hpk, hps, hcs, hdv, hbind⟩ := (FS kk f fn hf hfn).ex
  refine ⟨a, o, fd, hmg, ho, hd, wpAny_call ?_⟩
  have hdl := (hdv ρ σ).length
  have hvl := hv.length
  have hlen : vals.length + dv.length = params.length := by omega
  have hlen2 : params.length = (vals ++ dv).length := by rw [List.length_append]; omega
  have hvd : VRs ρ σ (vs ++ fn.dfl) (vals ++ dv) := hv.append (hdv ρ σ)
  have hdep : A.depth < recursionLimit := by
    have := hA.2.1
    show A.depth < 1000
    omega
  refine codeAny_call_function hdep (I.base a o ho) hd hco hgen hbody (hcd.keeps I.base) (hbind s vals I.base hlen _ _ _ _ ?_)
  rw [hclo]
  refine wpAny_with_toks (n := 1) ht ?_
  refine wpAny_newFunctionEnv_cells hkind (fun x hx => ?_) fun cenv he s' X htk0 => ?_
  · rcases hpk x.1 (mem_zip_fst hx) with q | q
    · exact .inl q
    · exact .inr ⟨q, cell_isSome hnd q⟩
  · have hcells : cenv.cells = cellsFrom (s.heap.objs.size + 1) fd.scope.names [] := by rw [he]; rfl
    have hloc : cenv.locals = s.heap.objs.size := by rw [he]; rfl
    have hscope : cenv.scope = fd.scope := by rw [he]; rfl
    have hg : cenv.globals = mainGlobals := by rw [he]; exact hglob
    have hbb : cenv.builtins = builtinsNs := by rw [he]; exact hbt
    have hko : ∀ x, cenv.kindOf x = fd.scope.names.lookup x := fun x => by unfold Env.kindOf; rw [hscope]
    obtain ⟨h1, t1, hs', hk1⟩ := X.done
    subst hs'
    have hns : h1.Ns cenv.locals _ := X.toInCall.ns
    have Inl : h1.NoLimit := (G.nolimit.keeps I.base).keeps hk1
    have hlk : ∀ x kd, (x, kd) ∈ fd.scope.names → fd.scope.names.lookup x = some kd := fun x kd hx => lookup_nodup hnd (x, kd) hx
    obtain ⟨g1, g2⟩ := mkF_sound (ρ := ρ) (params := params) (vs := vs ++ fn.dfl) (vals := vals ++ dv) (m := bindL cenv.kindOf (params.zip (vals ++ dv)) fun _ => none) (cm := bindC cenv.kindOf (params.zip (vals ++ dv)) fun _ => none) (cl := cenv.cells) (h := h1) (full := fd.scope.names)
      (fun x k hx hk => bindL_get (by rw [hko]; exact hlk x _ hx) params _ _ k hpn hlen2 hk) (fun x hx => bindL_miss params _ _ hx)
      (fun x k hx hk => bindC_get (by rw [hko]; exact hlk x _ hx) params _ _ k hpn hlen2 hk) (fun x hx => bindC_miss params _ _ hx)
      fd.scope.names fn.sl (s.heap.objs.size + 1) σ H (fun x hx => hx) hps hvd
      ⟨I.hr.len, fun n o a e e' => by have := (I.hr.obj n o a e e').ext (τ := []) (h' := h1) fun ob q => hk1 a ob q; simpa using this⟩
      (fun x c hc => by
        have e1 : cenv.cells.lookup x = some c := by rw [hcells]; exact cells_lookup hnd hc
        exact ⟨e1, X.cell x c e1⟩)
    rw [hmk] at g1 g2
    simp only at g1 g2
    have hnew : ∀ c ∈ (cellAts (s.heap.objs.size + 1) fd.scope.names).map (·.2), s.heap.get? c = none ∧ c ≠ cenv.locals := fun c hc => by
      have := cellAts_ge _ _ c hc
      exact ⟨none_ge (Nat.le_of_succ_le this), by rw [hloc]; exact Nat.ne_of_gt this⟩
    have hL0 : s.heap.get? cenv.locals = none := by rw [hloc]; exact none_ge (Nat.le_refl _)
    have I1 : Inv ρ hb fd.scope.names cenv ⟨sl, H.length⟩ H2 (σ ++ (cellAts (s.heap.objs.size + 1) fd.scope.names).map (·.2)) h1 :=
      { kind := by rw [hscope]; exact hkind
        names := by rw [hscope]
        glob := hg
        bt := hbb
        base := fun b o e => hk1 b o (I.base b o e)
        nd := hnd
        ns := ⟨_, hns, g1⟩
        hr := g2
        nodup := List.nodup_append.mpr ⟨I.nodup, cellAts_nodup2 _ _, fun a ha b hb' e => by
          subst e
          exact I.sdead (hnew a hb').1 ha⟩
        loc := fun hm => by
          rcases List.mem_append.mp hm with q | q
          · exact I.sdead hL0 q
          · exact (hnew _ q).2 rfl
        lb := I.hbdead hL0
        mtb := fun n a hn e => by
          have hn' : σ.length ≤ n := by rw [I.hr.len]; exact hn
          rw [List.getElem?_append_right hn'] at e
          exact I.hbdead (hnew a (List.mem_of_getElem? e)).1
        fzle := by
          show H.length ≤ H2.length
          have a1 := g2.len
          have a2 := I.hr.len
          simp at a1
          omega }
    have ht1 : 1 ≤ t1 := htk0
    refine ⟨Inl, codeAny_func ?_⟩
    refine stL_sound (s := { s with heap := h1, toks := t1 }) (env := cenv) IH hA.deeper hcs ht1 I1 h fun fl h3 t3 σ3 hf3 I3 st3 hr3 ht3 => ?_
    cases fl with
    | ret v' =>
      show Q v' _
      have hext : ∃ τ, σ3 = σ ++ τ ∧ ∀ a ∈ τ, s.heap.get? a = none := by
        obtain ⟨τ, e, f⟩ := st3.ext
        refine ⟨(cellAts (s.heap.objs.size + 1) fd.scope.names).map (·.2) ++ τ, by rw [e, List.append_assoc], fun a ha => ?_⟩
        rcases List.mem_append.mp ha with q | q
        · exact (hnew a q).1
        · cases e : s.heap.get? a with
          | none => rfl
          | some o => have := f a q; rw [show ({ s with heap := h1, toks := t1 } : Shared).heap.get? a = some o from hk1 a o e] at this; cases this
      have hkeep : ∀ b o, s.heap.get? b = some o → h3.get? b = some o := fun b o e => st3.keep b o (fun q => by rw [q, hL0] at e; cases e) (fun n hn q => by
        have hn' : σ.length ≤ n := by rw [I.hr.len]; exact hn
        rw [List.getElem?_append_right hn'] at q
        have := (hnew b (List.mem_of_getElem? q)).1
        rw [e] at this; cases this) (hk1 b o e)
      refine k v' h3 t3 σ3 (I.back I3 hext fun o e => hkeep _ o e) ?_ hr3
      obtain ⟨τ, e, f⟩ := hext
      exact ⟨⟨τ, e, f⟩, fun b o _ _ e => hkeep b o e⟩
    | _ => exact hr3.elim
end
end Mine
end
section
open PySem PySem.Calls PyProof.Rows PySem.W PySem.SeqAt
namespace Mine
set_option maxRecDepth 10000
set_option autoImplicit false
set_option linter.unusedVariables false

section
variable {prog : Program} {w : World} {ρ : Nat → Int} {hb : Heap} {mg mb : Str → Option Value} {K : Orc} {P : List FnD} {r : Rec} {n : Nat} {nm : Nm} {env : Env} {fm fm1 : Fm} {H H' : List O} {σ : List Addr} {s : Shared} {A : Around} {E : Value → Shared → Prop}
variable {v : V}

theorem S_call {Q : Value → Shared → Prop} (G : GF hb mg mb) (FS : FnsOK hb mg P) (IH : Sound prog w ρ hb r n) (hA : OkA (n + 1) A) (ht : 1 ≤ s.toks) {e : PySem.Expr} {kk : Nat} {args : List X} (ce : CE nm e (.call kk args)) (I : Inv ρ hb nm env fm H σ s.heap)
    (h : evF K P r fm H (.call kk args) = some (v, H')) (k : Post ρ hb nm env fm σ s H' v Q) : wpAny (model prog w) A (eval e env) Q E s := by
  cases ce with
  | @call _ f args' _ p q _ hf hgl hdb hne cs =>
    simp only [evF] at h
    split at h
    · rename_i vs H1 q1
      split at h
      · rename_i fn q2
        split at h
        · rename_i har
          split at h
          · rename_i v' fm3 H3 q4
            cases h
            have har' := Nat.eq_of_beq_eq_true har
            obtain ⟨a, o, fd, _, _, _, hmg, ho, hd, _⟩ := (FS kk f fn hf q2).ex
            refine wpAny_Call_NameR (Name_function_global I.kind (I.kof hgl) (loadGlobal_global (mg := mg) (by rw [I.glob]; exact G.g.keeps I.base) hmg ?_) hdb)
            have hpl := star_plain (env := env) cs q
            have hsp := S_spliced (env := env) (E := E) (Q := fun vals s1 => 1 ≤ s1.toks → ((∀ b o, hb.get? b = some o → s1.heap.get? b = some o) ∧ wpAny (model prog w) A (call (.ref a) ([] ++ vals) []) Q E s1)) IH hA.pred (p := q) cs ht I q1 fun vals h1 t1 σ1 I1 st1 hv ht1 => by
              refine ⟨I1.base, ?_⟩
              obtain ⟨a', o', fd', hmg', _, _, hcall⟩ := S_callB (s := { s with heap := h1, toks := t1 }) (E := E) G FS IH hA hf q2 ht1 I1 hv har' rfl q4 (Post.on (s := s) k I1 st1)
              rw [hmg] at hmg'
              cases hmg'
              exact hcall
            cases cs with
            | nil => exact absurd rfl hne
            | @cons _ e1 _ es _ hs1 c1 cs =>
              rw [star_cons hs1] at hpl hsp ⊢
              refine callWith_of (P := fun h => ∀ b o, hb.get? b = some o → h.get? b = some o) (by rw [hpl]; rfl) (fun h X => ⟨.frame, .inl rfl, keeper_fn (X a o ho) hd⟩) ?_
              exact evalArgs_plain (wpAny_with_toks (n := 1) ht (wpAny_mono hsp (fun _ _ x => x) fun _ _ x _ => x))
          · cases h
        · cases h
      · cases h
    · cases h

theorem sound_ev (OK : OrcOk K ρ) (G : GF hb mg mb) (FS : FnsOK hb mg P) (IH : Sound prog w ρ hb r n) {Q : Value → Shared → Prop} {e : PySem.Expr} {x : X} (hA : OkA (n + 1) A) (ht : 1 ≤ s.toks) (ce : CE nm e x) (I : Inv ρ hb nm env fm H σ s.heap)
    (h : evF K P r fm H x = some (v, H')) (k : Post ρ hb nm env fm σ s H' v Q) : wpAny (model prog w) A (eval e env) Q E s := by
  have hA' := hA.pred
  cases x with
  | cst c => exact S_cst ce I h k
  | loc i => exact S_loc ce I h k
  | cel i => exact S_cel ce I h k
  | bin o a b => exact S_bin OK IH hA' ht ce I h k
  | cmp o a b => exact S_cmp G.booked IH hA' ht ce I h k
  | neg a => exact S_neg IH hA' ht ce I h k
  | bop b l =>
    cases ce with
    | bop c =>
      simp only [evF] at h
      exact boolV_sound IH hA' c ht I h k
  | ite t a b => exact S_ite IH hA' ht ce I h k
  | sub a i => exact S_sub IH hA' ht ce I h k
  | cut a => exact S_cut IH hA' ht ce I h k
  | lst l => exact S_lst IH hA' ht ce I h k
  | tup l => exact S_tup IH hA' ht ce I h k
  | len a => exact S_len G IH hA' ht ce I h k
  | isi T a => exact S_isi G IH hA' ht ce I h k
  | cpy a => exact S_cpy G IH hA' ht ce I h k
  | join a => exact S_join IH hA' ht ce I h k
  | pop0 a => exact S_pop0 IH hA' ht ce I h k
  | pop a => exact S_pop IH hA' ht ce I h k
  | app o a => exact S_app IH hA' ht ce I h k
  | ext o a => exact S_ext IH hA' ht ce I h k
  | rev o => exact S_rev IH hA' ht ce I h k
  | srt o => exact S_srt IH hA' ht ce I h k
  | comp a b c d e f => exact S_comp G IH hA' ht ce I h k
  | call f args => exact S_call G FS IH hA ht ce I h k
  | refu => simp [evF] at h
  | inv a => simp [evF] at h
  | rng l => simp [evF] at h
  | enu a => simp [evF] at h
  | dead => simp [evF] at h

theorem sound_st (OK : OrcOk K ρ) (G : GF hb mg mb) (FS : FnsOK hb mg P) (IH : Sound prog w ρ hb r n) (low : ∃ m r', n = m + 1 ∧ r = stepR K P r' ∧ Sound prog w ρ hb r' m ∨ r = run K P 0) {Q : Flow → Shared → Prop} {e : PySem.Stmt} {x : S} {o : R} (hA : OkA (n + 1) A) (ht : 1 ≤ s.toks) (ce : CSt nm e x) (I : Inv ρ hb nm env fm H σ s.heap)
    (h : stF r fm H x = some (o, fm1, H')) (k : PostS ρ hb nm env fm σ s H' fm1 o (PT Q)) : wpAny (model prog w) A (exec e env) Q E s := by
  have hA' := hA.pred
  have wt : wpAny (model prog w) A (exec e env) (PT Q) (fun e s' => 1 ≤ s'.toks → E e s') s → wpAny (model prog w) A (exec e env) Q E s := fun x => wpAny_with_toks (n := 1) ht x
  cases ce with
  | dead => simp [stF] at h
  | rais _ _ _ => simp [stF] at h
  | trc _ _ _ _ _ _ _ _ => simp [stF] at h
  | asg hs tr c => exact wt (S_asg IH hA' ht hs tr c I h k)
  | asgC hs tr c =>
    rcases low with ⟨m, r', ⟨rfl, rfl, IH'⟩ | rfl⟩
    · refine wt (S_asgC G IH' hA'.pred ht hs tr c ?_ I h k)
      cases c with
      | comp _ _ _ _ _ _ _ _ => exact ⟨_, _, _, _, _, _, rfl⟩
      | dead _ => simp [stF, stepR, evF] at h
    · simp [stF, run] at h
  | asgT h1 h2 tr c => exact wt (S_asgT IH hA' ht h2 tr c I h k)
  | asgW ns hs tr c => exact wt (S_asgW IH hA' ht ns hs tr c I h k)
  | sto h1 h2 a b c => exact wt (S_sto IH hA' ht a b c I h k)
  | aug h1 h2 c => exact wt (S_aug IH hA' ht h1 h2 c I h k)
  | augs h1 a b c => exact wt (S_augs IH hA' ht h1 a b c I h k)
  | exp h1 c => exact wt (S_exp IH hA' ht h1 c I h k)
  | ifs t a b => exact S_ifs IH hA' ht t a b I h k
  | whl t b => exact S_whl IH hA' ht t b I h k
  | fr hs tp c b => exact S_fr G IH hA' ht hs tp c b I h k
  | ret c => exact wt (S_ret IH hA' ht c I h k)

theorem sound_all (OK : OrcOk K ρ) (G : GF hb mg mb) (FS : FnsOK hb mg P) : ∀ n, Sound prog w ρ hb (run K P n) n ∧ ∃ m r', n = m + 1 ∧ run K P n = stepR K P r' ∧ Sound prog w ρ hb r' m ∨ run K P n = run K P 0
  | 0 => ⟨sound0 .., 0, run K P 0, .inr rfl⟩
  | n + 1 => by
    obtain ⟨IH, low⟩ := sound_all OK G FS n
    refine ⟨?_, n, run K P n, .inl ⟨rfl, rfl, IH⟩⟩
    exact
      { ev := fun hA ht ce I h k => wpAny_with_toks (n := 1) ht (sound_ev OK G FS IH hA ht ce I h k)
        ts := fun hA ht ce I h k => wpAny_with_toks (n := 1) ht (T_all G.booked IH hA.pred ht ce I h k)
        st := fun hA ht ce I h k => sound_st OK G FS IH low hA ht ce I h k }
end
end Mine
end
section
open PySem PySem.Calls PyProof.Rows PySem.W PySem.SeqAt
namespace Mine
set_option maxRecDepth 100000
set_option autoImplicit false
set_option linter.unusedVariables false

def prog0 : Program := PySem.Challenge.pw_aq6047_01
def defOf (n : Str) : Arguments × List PySem.Stmt × Scope := match prog0.theDef n with
  | some x => x
  | none => (⟨[], [], none, [], [], none, []⟩, [], { kind := .function, names := [], isGenerator := false, isCoroutine := false })
def n_mk : Nm := [(⟨#[99, 114, 101, 97, 116, 105, 111, 110, 95, 115, 101, 113, 117, 101, 110, 99, 101]⟩, .«local»), (⟨#[102, 105, 114, 115, 116]⟩, .«local»), (⟨#[99, 115]⟩, .«local»), (⟨#[99, 99, 115]⟩, .«local»), (⟨#[99, 111, 117, 110, 116]⟩, .«local»), (⟨#[105]⟩, .«local»), (⟨#[105, 115, 105, 110, 115, 116, 97, 110, 99, 101]⟩, .globalImplicit), (⟨#[115, 116, 114]⟩, .globalImplicit), (⟨#[116, 117, 112, 108, 101]⟩, .globalImplicit), (⟨#[105, 110, 116]⟩, .globalImplicit), (⟨#[84, 121, 112, 101, 69, 114, 114, 111, 114]⟩, .globalImplicit), (⟨#[114, 97, 110, 103, 101]⟩, .globalImplicit), (⟨#[108, 101, 110]⟩, .globalImplicit)]
def n_un : Nm := [(⟨#[99, 114, 101, 97, 116, 105, 111, 110, 95, 115, 101, 113, 117, 101, 110, 99, 101]⟩, .«local»), (⟨#[102, 105, 114, 115, 116]⟩, .«local»), (⟨#[99, 99, 115, 99, 111, 112, 121]⟩, .«local»), (⟨#[99, 115]⟩, .«local»), (⟨#[105, 115, 105, 110, 115, 116, 97, 110, 99, 101]⟩, .globalImplicit), (⟨#[115, 116, 114]⟩, .globalImplicit), (⟨#[116, 117, 112, 108, 101]⟩, .globalImplicit), (⟨#[105, 110, 116]⟩, .globalImplicit), (⟨#[84, 121, 112, 101, 69, 114, 114, 111, 114]⟩, .globalImplicit)]
def n_cw : Nm := [(⟨#[99, 114, 101, 97, 116, 105, 111, 110, 95, 115, 101, 113, 117, 101, 110, 99, 101]⟩, .«local»), (⟨#[102, 105, 114, 115, 116]⟩, .«local»), (⟨#[119, 115, 101, 113]⟩, .«local»), (⟨#[119]⟩, .«local»), (⟨#[112, 114, 101, 118]⟩, .«local»), (⟨#[106]⟩, .«local»), (⟨#[115]⟩, .«local»), (⟨#[119, 115, 99, 97, 108, 101]⟩, .cell), (⟨#[105, 115, 105, 110, 115, 116, 97, 110, 99, 101]⟩, .globalImplicit), (⟨#[115, 116, 114]⟩, .globalImplicit), (⟨#[108, 105, 115, 116]⟩, .globalImplicit), (⟨#[116, 117, 112, 108, 101]⟩, .globalImplicit), (⟨#[105, 110, 116]⟩, .globalImplicit), (⟨#[117, 110, 99, 111, 109, 112, 97, 99, 116]⟩, .globalImplicit), (⟨#[84, 121, 112, 101, 69, 114, 114, 111, 114]⟩, .globalImplicit), (⟨#[101, 110, 117, 109, 101, 114, 97, 116, 101]⟩, .globalImplicit)]
def n_wc : Nm := [(⟨#[119, 101, 105, 103, 104, 116, 115]⟩, .«local»), (⟨#[116, 104, 114, 101, 115, 104, 111, 108, 100]⟩, .«local»), (⟨#[119, 105, 116, 104, 95, 108, 97, 98, 101, 108, 115]⟩, .«local»), (⟨#[99, 111, 109, 112, 97, 99, 116]⟩, .«local»), (⟨#[108, 97, 98, 101, 108]⟩, .«local»), (⟨#[119]⟩, .«local»), (⟨#[119, 115, 101, 113]⟩, .«local»), (⟨#[99, 115]⟩, .«local»), (⟨#[99, 117, 116, 111, 102, 102]⟩, .«local»), (⟨#[86, 97, 108, 117, 101, 69, 114, 114, 111, 114]⟩, .globalImplicit), (⟨#[105, 115, 105, 110, 115, 116, 97, 110, 99, 101]⟩, .globalImplicit), (⟨#[100, 105, 99, 116]⟩, .globalImplicit), (⟨#[101, 110, 117, 109, 101, 114, 97, 116, 101]⟩, .globalImplicit), (⟨#[108, 101, 110]⟩, .globalImplicit), (⟨#[109, 97, 107, 101, 95, 99, 111, 109, 112, 97, 99, 116]⟩, .globalImplicit)]
def n_lr : Nm := [(⟨#[108, 101, 116, 116, 101, 114, 115]⟩, .«local»), (⟨#[114, 117, 110, 115]⟩, .«local»), (⟨#[107]⟩, .«local»), (⟨#[114, 97, 110, 103, 101]⟩, .globalImplicit), (⟨#[108, 101, 110]⟩, .globalImplicit)]
def n_lw : Nm := [(⟨#[108, 101, 116, 116, 101, 114, 115]⟩, .cell), (⟨#[107]⟩, .cell), (⟨#[115, 116, 97, 114, 116, 115]⟩, .«local»), (⟨#[108, 97, 110, 101, 115]⟩, .«local»), (⟨#[103, 97, 112, 115]⟩, .«local»), (⟨#[119, 104, 111, 108, 101]⟩, .«local»), (⟨#[114, 97, 110, 103, 101]⟩, .globalImplicit), (⟨#[108, 101, 110]⟩, .globalImplicit)]
def n_la : Nm := [(⟨#[115, 99, 114, 105, 112, 116]⟩, .«local»), (⟨#[110, 117, 109, 98, 101, 114, 115]⟩, .cell), (⟨#[115, 105, 122, 101]⟩, .«local»), (⟨#[108, 101, 116, 116, 101, 114, 115]⟩, .cell), (⟨#[108, 97, 98, 101, 108, 108, 101, 100]⟩, .«local»), (⟨#[116, 101, 120, 116]⟩, .«local»), (⟨#[114, 117, 110, 115]⟩, .«local»), (⟨#[119, 104, 111, 108, 101]⟩, .«local»), (⟨#[108, 97, 110, 101, 115]⟩, .cell), (⟨#[100, 117, 101]⟩, .«local»), (⟨#[112, 108, 97, 105, 110]⟩, .«local»), (⟨#[110, 97, 109, 101, 100]⟩, .«local»), (⟨#[115, 104, 111, 114, 116]⟩, .«local»), (⟨#[116, 111, 108, 100]⟩, .«local»), (⟨#[111, 110, 101]⟩, .«local»), (⟨#[111, 116, 104, 101, 114]⟩, .«local»), (⟨#[95, 108, 97, 119, 95, 110, 117, 109, 98, 101, 114, 115]⟩, .globalImplicit), (⟨#[114, 97, 110, 103, 101]⟩, .globalImplicit), (⟨#[95, 108, 97, 119, 95, 114, 117, 110, 115]⟩, .globalImplicit), (⟨#[95, 108, 97, 119, 95, 119, 104, 111, 108, 101]⟩, .globalImplicit), (⟨#[108, 105, 115, 116]⟩, .globalImplicit), (⟨#[109, 97, 107, 101, 95, 99, 111, 109, 112, 97, 99, 116]⟩, .globalImplicit), (⟨#[117, 110, 99, 111, 109, 112, 97, 99, 116]⟩, .globalImplicit), (⟨#[99, 114, 101, 97, 116, 105, 111, 110, 95, 115, 101, 113, 117, 101, 110, 99, 101, 95, 116, 111, 95, 119, 101, 105, 103, 104, 116, 115]⟩, .globalImplicit), (⟨#[95, 108, 97, 119, 95, 114, 101, 102, 117, 115, 101, 100]⟩, .globalImplicit), (⟨#[119, 101, 105, 103, 104, 116, 115, 95, 116, 111, 95, 99, 114, 101, 97, 116, 105, 111, 110, 95, 115, 101, 113, 117, 101, 110, 99, 101]⟩, .globalImplicit)]
def n_ln : Nm := [(⟨#[115, 99, 114, 105, 112, 116]⟩, .cell), (⟨#[99, 111, 117, 110, 116]⟩, .«local»), (⟨#[114, 97, 110, 103, 101]⟩, .globalImplicit)]
def n_rf : Nm := [(⟨#[98, 97, 100]⟩, .«local»), (⟨#[114, 101, 102, 117, 115, 101, 100]⟩, .«local»), (⟨#[109, 97, 107, 101, 95, 99, 111, 109, 112, 97, 99, 116]⟩, .globalImplicit), (⟨#[84, 121, 112, 101, 69, 114, 114, 111, 114]⟩, .globalImplicit), (⟨#[117, 110, 99, 111, 109, 112, 97, 99, 116]⟩, .globalImplicit), (⟨#[99, 114, 101, 97, 116, 105, 111, 110, 95, 115, 101, 113, 117, 101, 110, 99, 101, 95, 116, 111, 95, 119, 101, 105, 103, 104, 116, 115]⟩, .globalImplicit)]
set_option maxHeartbeats 0 in
theorem c_mk : CSts n_mk (defOf "make_compact").2.1 b_mk := by
  unfold b_mk
  repeat' (first
    | exact CSts.nil | refine CSts.cons ?_ ?_ | exact CEs.nil | refine CEs.cons rfl ?_ ?_
    | exact CSt.dead | exact CE.dead rfl
    | refine CSt.asg (by (intro env h1 h2; rcases env with ⟨⟨_, _⟩⟩; simp only at h1 h2; subst h1 h2; rfl)) ?_ ?_ | refine CSt.asgC (by (intro env h1 h2; rcases env with ⟨⟨_, _⟩⟩; simp only at h1 h2; subst h1 h2; rfl)) ?_ ?_ | refine CSt.asgT rfl rfl ?_ ?_ | refine CSt.asgW ["text", "runs"] (by (intro env h1 h2; rcases env with ⟨⟨_, _⟩⟩; simp only at h1 h2; subst h1 h2; kernel_rfl)) (NRs.cons (by decide +kernel) (by decide +kernel) (NRs.cons (by decide +kernel) (by decide +kernel) NRs.nil)) ?_ | refine CSt.asgW ["plain", "named", "short"] (by (intro env h1 h2; rcases env with ⟨⟨_, _⟩⟩; simp only at h1 h2; subst h1 h2; kernel_rfl)) (NRs.cons (by decide +kernel) (by decide +kernel) (NRs.cons (by decide +kernel) (by decide +kernel) (NRs.cons (by decide +kernel) (by decide +kernel) NRs.nil))) ?_
    | refine CSt.sto rfl rfl ?_ ?_ ?_ | refine CSt.aug (by decide +kernel) (by decide +kernel) ?_ | refine CSt.augs rfl ?_ ?_ ?_ | refine CSt.exp rfl ?_
    | refine CSt.ifs ?_ ?_ ?_ | refine CSt.whl ?_ ?_ | refine CSt.fr (fun _ _ => rfl) ?_ ?_ ?_ | refine CSt.ret ?_ | exact CSt.rais _ (by unfold gl; decide +kernel) (by decide +kernel) | refine CSt.trc _ (by decide +kernel) (by unfold gl; decide +kernel) (by decide +kernel) rfl ?_ (by unfold gl; decide +kernel) ?_
    | exact TR.loc _ _ _ (by decide +kernel) (by decide +kernel) | exact TR.cel _ _ _ (by decide +kernel) (by decide +kernel)
    | exact TRs.nil | refine TRs.cons ?_ ?_ | refine TP.two ?_ ?_ | refine TP.one ?_
    | exact NRs.nil | refine NRs.cons (by decide +kernel) (by decide +kernel) ?_
    | exact CSRs.nil | refine CSRs.cons ?_ ?_ | exact CSR.loc _ | exact CSR.oth _ | exact CSR.fre _ _ _ (by decide +kernel) (.inl rfl) | exact CSR.fre _ _ _ (by decide +kernel) (.inr rfl)
    | exact CE.int _ _ _ | exact CE.str _ _ _ | exact CE.bool _ _ _ | exact CE.none _ _
    | exact CE.loc _ _ _ (by decide +kernel) (by decide +kernel) (by decide +kernel) | exact CE.cel _ _ _ (by decide +kernel) (by decide +kernel) (by decide +kernel) | exact CE.fre _ _ _ (by decide +kernel) (by decide +kernel) (by decide +kernel) (by decide +kernel)
    | refine CE.bin rfl ?_ ?_ | refine CE.cmp rfl (by with_unfolding_all rfl) ?_ ?_ | refine CE.neg ?_ | refine CE.inv ?_ | refine CE.bop ?_ | refine CE.ite ?_ ?_ ?_
    | refine CE.cut ?_ | refine CE.sub rfl ?_ ?_ | refine CE.lst ?_ | refine CE.tup ?_
    | refine CE.len (by unfold gl; decide +kernel) rfl ?_ | refine CE.isi _ _ (by unfold gl; decide +kernel) (by unfold gl; decide +kernel) (by decide +kernel) (by rfl) rfl ?_ | refine CE.cpy (by unfold gl; decide +kernel) rfl ?_
    | refine CE.rng (by unfold gl; decide +kernel) ?_ | refine CE.enu (by unfold gl; decide +kernel) rfl ?_ | refine CE.join rfl rfl ?_
    | refine CE.pop0 rfl ?_ | refine CE.pop rfl ?_ | refine CE.app rfl rfl ?_ ?_ | refine CE.ext rfl rfl ?_ ?_ | refine CE.rev rfl ?_ | refine CE.srt rfl ?_
    | refine CE.comp rfl (by decide +kernel) ?_ (fun _ _ => rfl) ?_ ?_ ?_ ?_
    | refine CE.call _ (by decide +kernel) (by unfold gl; decide +kernel) (by decide +kernel) (by simp) ?_
    | exact CE.refu (by unfold gl; decide +kernel))
set_option maxHeartbeats 0 in
theorem c_un : CSts n_un (defOf "uncompact").2.1 b_un := by
  unfold b_un
  repeat' (first
    | exact CSts.nil | refine CSts.cons ?_ ?_ | exact CEs.nil | refine CEs.cons rfl ?_ ?_
    | exact CSt.dead | exact CE.dead rfl
    | refine CSt.asg (by (intro env h1 h2; rcases env with ⟨⟨_, _⟩⟩; simp only at h1 h2; subst h1 h2; rfl)) ?_ ?_ | refine CSt.asgC (by (intro env h1 h2; rcases env with ⟨⟨_, _⟩⟩; simp only at h1 h2; subst h1 h2; rfl)) ?_ ?_ | refine CSt.asgT rfl rfl ?_ ?_ | refine CSt.asgW ["text", "runs"] (by (intro env h1 h2; rcases env with ⟨⟨_, _⟩⟩; simp only at h1 h2; subst h1 h2; kernel_rfl)) (NRs.cons (by decide +kernel) (by decide +kernel) (NRs.cons (by decide +kernel) (by decide +kernel) NRs.nil)) ?_ | refine CSt.asgW ["plain", "named", "short"] (by (intro env h1 h2; rcases env with ⟨⟨_, _⟩⟩; simp only at h1 h2; subst h1 h2; kernel_rfl)) (NRs.cons (by decide +kernel) (by decide +kernel) (NRs.cons (by decide +kernel) (by decide +kernel) (NRs.cons (by decide +kernel) (by decide +kernel) NRs.nil))) ?_
    | refine CSt.sto rfl rfl ?_ ?_ ?_ | refine CSt.aug (by decide +kernel) (by decide +kernel) ?_ | refine CSt.augs rfl ?_ ?_ ?_ | refine CSt.exp rfl ?_
    | refine CSt.ifs ?_ ?_ ?_ | refine CSt.whl ?_ ?_ | refine CSt.fr (fun _ _ => rfl) ?_ ?_ ?_ | refine CSt.ret ?_ | exact CSt.rais _ (by unfold gl; decide +kernel) (by decide +kernel) | refine CSt.trc _ (by decide +kernel) (by unfold gl; decide +kernel) (by decide +kernel) rfl ?_ (by unfold gl; decide +kernel) ?_
    | exact TR.loc _ _ _ (by decide +kernel) (by decide +kernel) | exact TR.cel _ _ _ (by decide +kernel) (by decide +kernel)
    | exact TRs.nil | refine TRs.cons ?_ ?_ | refine TP.two ?_ ?_ | refine TP.one ?_
    | exact NRs.nil | refine NRs.cons (by decide +kernel) (by decide +kernel) ?_
    | exact CSRs.nil | refine CSRs.cons ?_ ?_ | exact CSR.loc _ | exact CSR.oth _ | exact CSR.fre _ _ _ (by decide +kernel) (.inl rfl) | exact CSR.fre _ _ _ (by decide +kernel) (.inr rfl)
    | exact CE.int _ _ _ | exact CE.str _ _ _ | exact CE.bool _ _ _ | exact CE.none _ _
    | exact CE.loc _ _ _ (by decide +kernel) (by decide +kernel) (by decide +kernel) | exact CE.cel _ _ _ (by decide +kernel) (by decide +kernel) (by decide +kernel) | exact CE.fre _ _ _ (by decide +kernel) (by decide +kernel) (by decide +kernel) (by decide +kernel)
    | refine CE.bin rfl ?_ ?_ | refine CE.cmp rfl (by with_unfolding_all rfl) ?_ ?_ | refine CE.neg ?_ | refine CE.inv ?_ | refine CE.bop ?_ | refine CE.ite ?_ ?_ ?_
    | refine CE.cut ?_ | refine CE.sub rfl ?_ ?_ | refine CE.lst ?_ | refine CE.tup ?_
    | refine CE.len (by unfold gl; decide +kernel) rfl ?_ | refine CE.isi _ _ (by unfold gl; decide +kernel) (by unfold gl; decide +kernel) (by decide +kernel) (by rfl) rfl ?_ | refine CE.cpy (by unfold gl; decide +kernel) rfl ?_
    | refine CE.rng (by unfold gl; decide +kernel) ?_ | refine CE.enu (by unfold gl; decide +kernel) rfl ?_ | refine CE.join rfl rfl ?_
    | refine CE.pop0 rfl ?_ | refine CE.pop rfl ?_ | refine CE.app rfl rfl ?_ ?_ | refine CE.ext rfl rfl ?_ ?_ | refine CE.rev rfl ?_ | refine CE.srt rfl ?_
    | refine CE.comp rfl (by decide +kernel) ?_ (fun _ _ => rfl) ?_ ?_ ?_ ?_
    | refine CE.call _ (by decide +kernel) (by unfold gl; decide +kernel) (by decide +kernel) (by simp) ?_
    | exact CE.refu (by unfold gl; decide +kernel))
set_option maxHeartbeats 0 in
theorem c_cw : CSts n_cw (defOf "creation_sequence_to_weights").2.1 b_cw := by
  unfold b_cw
  repeat' (first
    | exact CSts.nil | refine CSts.cons ?_ ?_ | exact CEs.nil | refine CEs.cons rfl ?_ ?_
    | exact CSt.dead | exact CE.dead rfl
    | refine CSt.asg (by (intro env h1 h2; rcases env with ⟨⟨_, _⟩⟩; simp only at h1 h2; subst h1 h2; rfl)) ?_ ?_ | refine CSt.asgC (by (intro env h1 h2; rcases env with ⟨⟨_, _⟩⟩; simp only at h1 h2; subst h1 h2; rfl)) ?_ ?_ | refine CSt.asgT rfl rfl ?_ ?_ | refine CSt.asgW ["text", "runs"] (by (intro env h1 h2; rcases env with ⟨⟨_, _⟩⟩; simp only at h1 h2; subst h1 h2; kernel_rfl)) (NRs.cons (by decide +kernel) (by decide +kernel) (NRs.cons (by decide +kernel) (by decide +kernel) NRs.nil)) ?_ | refine CSt.asgW ["plain", "named", "short"] (by (intro env h1 h2; rcases env with ⟨⟨_, _⟩⟩; simp only at h1 h2; subst h1 h2; kernel_rfl)) (NRs.cons (by decide +kernel) (by decide +kernel) (NRs.cons (by decide +kernel) (by decide +kernel) (NRs.cons (by decide +kernel) (by decide +kernel) NRs.nil))) ?_
    | refine CSt.sto rfl rfl ?_ ?_ ?_ | refine CSt.aug (by decide +kernel) (by decide +kernel) ?_ | refine CSt.augs rfl ?_ ?_ ?_ | refine CSt.exp rfl ?_
    | refine CSt.ifs ?_ ?_ ?_ | refine CSt.whl ?_ ?_ | refine CSt.fr (fun _ _ => rfl) ?_ ?_ ?_ | refine CSt.ret ?_ | exact CSt.rais _ (by unfold gl; decide +kernel) (by decide +kernel) | refine CSt.trc _ (by decide +kernel) (by unfold gl; decide +kernel) (by decide +kernel) rfl ?_ (by unfold gl; decide +kernel) ?_
    | exact TR.loc _ _ _ (by decide +kernel) (by decide +kernel) | exact TR.cel _ _ _ (by decide +kernel) (by decide +kernel)
    | exact TRs.nil | refine TRs.cons ?_ ?_ | refine TP.two ?_ ?_ | refine TP.one ?_
    | exact NRs.nil | refine NRs.cons (by decide +kernel) (by decide +kernel) ?_
    | exact CSRs.nil | refine CSRs.cons ?_ ?_ | exact CSR.loc _ | exact CSR.oth _ | exact CSR.fre _ _ _ (by decide +kernel) (.inl rfl) | exact CSR.fre _ _ _ (by decide +kernel) (.inr rfl)
    | exact CE.int _ _ _ | exact CE.str _ _ _ | exact CE.bool _ _ _ | exact CE.none _ _
    | exact CE.loc _ _ _ (by decide +kernel) (by decide +kernel) (by decide +kernel) | exact CE.cel _ _ _ (by decide +kernel) (by decide +kernel) (by decide +kernel) | exact CE.fre _ _ _ (by decide +kernel) (by decide +kernel) (by decide +kernel) (by decide +kernel)
    | refine CE.bin rfl ?_ ?_ | refine CE.cmp rfl (by with_unfolding_all rfl) ?_ ?_ | refine CE.neg ?_ | refine CE.inv ?_ | refine CE.bop ?_ | refine CE.ite ?_ ?_ ?_
    | refine CE.cut ?_ | refine CE.sub rfl ?_ ?_ | refine CE.lst ?_ | refine CE.tup ?_
    | refine CE.len (by unfold gl; decide +kernel) rfl ?_ | refine CE.isi _ _ (by unfold gl; decide +kernel) (by unfold gl; decide +kernel) (by decide +kernel) (by rfl) rfl ?_ | refine CE.cpy (by unfold gl; decide +kernel) rfl ?_
    | refine CE.rng (by unfold gl; decide +kernel) ?_ | refine CE.enu (by unfold gl; decide +kernel) rfl ?_ | refine CE.join rfl rfl ?_
    | refine CE.pop0 rfl ?_ | refine CE.pop rfl ?_ | refine CE.app rfl rfl ?_ ?_ | refine CE.ext rfl rfl ?_ ?_ | refine CE.rev rfl ?_ | refine CE.srt rfl ?_
    | refine CE.comp rfl (by decide +kernel) ?_ (fun _ _ => rfl) ?_ ?_ ?_ ?_
    | refine CE.call _ (by decide +kernel) (by unfold gl; decide +kernel) (by decide +kernel) (by simp) ?_
    | exact CE.refu (by unfold gl; decide +kernel))
set_option maxHeartbeats 0 in
theorem c_wc : CSts n_wc (defOf "weights_to_creation_sequence").2.1 b_wc := by
  unfold b_wc
  repeat' (first
    | exact CSts.nil | refine CSts.cons ?_ ?_ | exact CEs.nil | refine CEs.cons rfl ?_ ?_
    | exact CSt.dead | exact CE.dead rfl
    | refine CSt.asg (by (intro env h1 h2; rcases env with ⟨⟨_, _⟩⟩; simp only at h1 h2; subst h1 h2; rfl)) ?_ ?_ | refine CSt.asgC (by (intro env h1 h2; rcases env with ⟨⟨_, _⟩⟩; simp only at h1 h2; subst h1 h2; rfl)) ?_ ?_ | refine CSt.asgT rfl rfl ?_ ?_ | refine CSt.asgW ["text", "runs"] (by (intro env h1 h2; rcases env with ⟨⟨_, _⟩⟩; simp only at h1 h2; subst h1 h2; kernel_rfl)) (NRs.cons (by decide +kernel) (by decide +kernel) (NRs.cons (by decide +kernel) (by decide +kernel) NRs.nil)) ?_ | refine CSt.asgW ["plain", "named", "short"] (by (intro env h1 h2; rcases env with ⟨⟨_, _⟩⟩; simp only at h1 h2; subst h1 h2; kernel_rfl)) (NRs.cons (by decide +kernel) (by decide +kernel) (NRs.cons (by decide +kernel) (by decide +kernel) (NRs.cons (by decide +kernel) (by decide +kernel) NRs.nil))) ?_
    | refine CSt.sto rfl rfl ?_ ?_ ?_ | refine CSt.aug (by decide +kernel) (by decide +kernel) ?_ | refine CSt.augs rfl ?_ ?_ ?_ | refine CSt.exp rfl ?_
    | refine CSt.ifs ?_ ?_ ?_ | refine CSt.whl ?_ ?_ | refine CSt.fr (fun _ _ => rfl) ?_ ?_ ?_ | refine CSt.ret ?_ | exact CSt.rais _ (by unfold gl; decide +kernel) (by decide +kernel) | refine CSt.trc _ (by decide +kernel) (by unfold gl; decide +kernel) (by decide +kernel) rfl ?_ (by unfold gl; decide +kernel) ?_
    | exact TR.loc _ _ _ (by decide +kernel) (by decide +kernel) | exact TR.cel _ _ _ (by decide +kernel) (by decide +kernel)
    | exact TRs.nil | refine TRs.cons ?_ ?_ | refine TP.two ?_ ?_ | refine TP.one ?_
    | exact NRs.nil | refine NRs.cons (by decide +kernel) (by decide +kernel) ?_
    | exact CSRs.nil | refine CSRs.cons ?_ ?_ | exact CSR.loc _ | exact CSR.oth _ | exact CSR.fre _ _ _ (by decide +kernel) (.inl rfl) | exact CSR.fre _ _ _ (by decide +kernel) (.inr rfl)
    | exact CE.int _ _ _ | exact CE.str _ _ _ | exact CE.bool _ _ _ | exact CE.none _ _
    | exact CE.loc _ _ _ (by decide +kernel) (by decide +kernel) (by decide +kernel) | exact CE.cel _ _ _ (by decide +kernel) (by decide +kernel) (by decide +kernel) | exact CE.fre _ _ _ (by decide +kernel) (by decide +kernel) (by decide +kernel) (by decide +kernel)
    | refine CE.bin rfl ?_ ?_ | refine CE.cmp rfl (by with_unfolding_all rfl) ?_ ?_ | refine CE.neg ?_ | refine CE.inv ?_ | refine CE.bop ?_ | refine CE.ite ?_ ?_ ?_
    | refine CE.cut ?_ | refine CE.sub rfl ?_ ?_ | refine CE.lst ?_ | refine CE.tup ?_
    | refine CE.len (by unfold gl; decide +kernel) rfl ?_ | refine CE.isi _ _ (by unfold gl; decide +kernel) (by unfold gl; decide +kernel) (by decide +kernel) (by rfl) rfl ?_ | refine CE.cpy (by unfold gl; decide +kernel) rfl ?_
    | refine CE.rng (by unfold gl; decide +kernel) ?_ | refine CE.enu (by unfold gl; decide +kernel) rfl ?_ | refine CE.join rfl rfl ?_
    | refine CE.pop0 rfl ?_ | refine CE.pop rfl ?_ | refine CE.app rfl rfl ?_ ?_ | refine CE.ext rfl rfl ?_ ?_ | refine CE.rev rfl ?_ | refine CE.srt rfl ?_
    | refine CE.comp rfl (by decide +kernel) ?_ (fun _ _ => rfl) ?_ ?_ ?_ ?_
    | refine CE.call _ (by decide +kernel) (by unfold gl; decide +kernel) (by decide +kernel) (by simp) ?_
    | exact CE.refu (by unfold gl; decide +kernel))
set_option maxHeartbeats 0 in
theorem c_lr : CSts n_lr (defOf "_law_runs").2.1 b_lr := by
  unfold b_lr
  repeat' (first
    | exact CSts.nil | refine CSts.cons ?_ ?_ | exact CEs.nil | refine CEs.cons rfl ?_ ?_
    | exact CSt.dead | exact CE.dead rfl
    | refine CSt.asg (by (intro env h1 h2; rcases env with ⟨⟨_, _⟩⟩; simp only at h1 h2; subst h1 h2; rfl)) ?_ ?_ | refine CSt.asgC (by (intro env h1 h2; rcases env with ⟨⟨_, _⟩⟩; simp only at h1 h2; subst h1 h2; rfl)) ?_ ?_ | refine CSt.asgT rfl rfl ?_ ?_ | refine CSt.asgW ["text", "runs"] (by (intro env h1 h2; rcases env with ⟨⟨_, _⟩⟩; simp only at h1 h2; subst h1 h2; kernel_rfl)) (NRs.cons (by decide +kernel) (by decide +kernel) (NRs.cons (by decide +kernel) (by decide +kernel) NRs.nil)) ?_ | refine CSt.asgW ["plain", "named", "short"] (by (intro env h1 h2; rcases env with ⟨⟨_, _⟩⟩; simp only at h1 h2; subst h1 h2; kernel_rfl)) (NRs.cons (by decide +kernel) (by decide +kernel) (NRs.cons (by decide +kernel) (by decide +kernel) (NRs.cons (by decide +kernel) (by decide +kernel) NRs.nil))) ?_
    | refine CSt.sto rfl rfl ?_ ?_ ?_ | refine CSt.aug (by decide +kernel) (by decide +kernel) ?_ | refine CSt.augs rfl ?_ ?_ ?_ | refine CSt.exp rfl ?_
    | refine CSt.ifs ?_ ?_ ?_ | refine CSt.whl ?_ ?_ | refine CSt.fr (fun _ _ => rfl) ?_ ?_ ?_ | refine CSt.ret ?_ | exact CSt.rais _ (by unfold gl; decide +kernel) (by decide +kernel) | refine CSt.trc _ (by decide +kernel) (by unfold gl; decide +kernel) (by decide +kernel) rfl ?_ (by unfold gl; decide +kernel) ?_
    | exact TR.loc _ _ _ (by decide +kernel) (by decide +kernel) | exact TR.cel _ _ _ (by decide +kernel) (by decide +kernel)
    | exact TRs.nil | refine TRs.cons ?_ ?_ | refine TP.two ?_ ?_ | refine TP.one ?_
    | exact NRs.nil | refine NRs.cons (by decide +kernel) (by decide +kernel) ?_
    | exact CSRs.nil | refine CSRs.cons ?_ ?_ | exact CSR.loc _ | exact CSR.oth _ | exact CSR.fre _ _ _ (by decide +kernel) (.inl rfl) | exact CSR.fre _ _ _ (by decide +kernel) (.inr rfl)
    | exact CE.int _ _ _ | exact CE.str _ _ _ | exact CE.bool _ _ _ | exact CE.none _ _
    | exact CE.loc _ _ _ (by decide +kernel) (by decide +kernel) (by decide +kernel) | exact CE.cel _ _ _ (by decide +kernel) (by decide +kernel) (by decide +kernel) | exact CE.fre _ _ _ (by decide +kernel) (by decide +kernel) (by decide +kernel) (by decide +kernel)
    | refine CE.bin rfl ?_ ?_ | refine CE.cmp rfl (by with_unfolding_all rfl) ?_ ?_ | refine CE.neg ?_ | refine CE.inv ?_ | refine CE.bop ?_ | refine CE.ite ?_ ?_ ?_
    | refine CE.cut ?_ | refine CE.sub rfl ?_ ?_ | refine CE.lst ?_ | refine CE.tup ?_
    | refine CE.len (by unfold gl; decide +kernel) rfl ?_ | refine CE.isi _ _ (by unfold gl; decide +kernel) (by unfold gl; decide +kernel) (by decide +kernel) (by rfl) rfl ?_ | refine CE.cpy (by unfold gl; decide +kernel) rfl ?_
    | refine CE.rng (by unfold gl; decide +kernel) ?_ | refine CE.enu (by unfold gl; decide +kernel) rfl ?_ | refine CE.join rfl rfl ?_
    | refine CE.pop0 rfl ?_ | refine CE.pop rfl ?_ | refine CE.app rfl rfl ?_ ?_ | refine CE.ext rfl rfl ?_ ?_ | refine CE.rev rfl ?_ | refine CE.srt rfl ?_
    | refine CE.comp rfl (by decide +kernel) ?_ (fun _ _ => rfl) ?_ ?_ ?_ ?_
    | refine CE.call _ (by decide +kernel) (by unfold gl; decide +kernel) (by decide +kernel) (by simp) ?_
    | exact CE.refu (by unfold gl; decide +kernel))
set_option maxHeartbeats 0 in
theorem c_lw : CSts n_lw (defOf "_law_whole").2.1 b_lw := by
  unfold b_lw
  repeat' (first
    | exact CSts.nil | refine CSts.cons ?_ ?_ | exact CEs.nil | refine CEs.cons rfl ?_ ?_
    | exact CSt.dead | exact CE.dead rfl
    | refine CSt.asg (by (intro env h1 h2; rcases env with ⟨⟨_, _⟩⟩; simp only at h1 h2; subst h1 h2; rfl)) ?_ ?_ | refine CSt.asgC (by (intro env h1 h2; rcases env with ⟨⟨_, _⟩⟩; simp only at h1 h2; subst h1 h2; rfl)) ?_ ?_ | refine CSt.asgT rfl rfl ?_ ?_ | refine CSt.asgW ["text", "runs"] (by (intro env h1 h2; rcases env with ⟨⟨_, _⟩⟩; simp only at h1 h2; subst h1 h2; kernel_rfl)) (NRs.cons (by decide +kernel) (by decide +kernel) (NRs.cons (by decide +kernel) (by decide +kernel) NRs.nil)) ?_ | refine CSt.asgW ["plain", "named", "short"] (by (intro env h1 h2; rcases env with ⟨⟨_, _⟩⟩; simp only at h1 h2; subst h1 h2; kernel_rfl)) (NRs.cons (by decide +kernel) (by decide +kernel) (NRs.cons (by decide +kernel) (by decide +kernel) (NRs.cons (by decide +kernel) (by decide +kernel) NRs.nil))) ?_
    | refine CSt.sto rfl rfl ?_ ?_ ?_ | refine CSt.aug (by decide +kernel) (by decide +kernel) ?_ | refine CSt.augs rfl ?_ ?_ ?_ | refine CSt.exp rfl ?_
    | refine CSt.ifs ?_ ?_ ?_ | refine CSt.whl ?_ ?_ | refine CSt.fr (fun _ _ => rfl) ?_ ?_ ?_ | refine CSt.ret ?_ | exact CSt.rais _ (by unfold gl; decide +kernel) (by decide +kernel) | refine CSt.trc _ (by decide +kernel) (by unfold gl; decide +kernel) (by decide +kernel) rfl ?_ (by unfold gl; decide +kernel) ?_
    | exact TR.loc _ _ _ (by decide +kernel) (by decide +kernel) | exact TR.cel _ _ _ (by decide +kernel) (by decide +kernel)
    | exact TRs.nil | refine TRs.cons ?_ ?_ | refine TP.two ?_ ?_ | refine TP.one ?_
    | exact NRs.nil | refine NRs.cons (by decide +kernel) (by decide +kernel) ?_
    | exact CSRs.nil | refine CSRs.cons ?_ ?_ | exact CSR.loc _ | exact CSR.oth _ | exact CSR.fre _ _ _ (by decide +kernel) (.inl rfl) | exact CSR.fre _ _ _ (by decide +kernel) (.inr rfl)
    | exact CE.int _ _ _ | exact CE.str _ _ _ | exact CE.bool _ _ _ | exact CE.none _ _
    | exact CE.loc _ _ _ (by decide +kernel) (by decide +kernel) (by decide +kernel) | exact CE.cel _ _ _ (by decide +kernel) (by decide +kernel) (by decide +kernel) | exact CE.fre _ _ _ (by decide +kernel) (by decide +kernel) (by decide +kernel) (by decide +kernel)
    | refine CE.bin rfl ?_ ?_ | refine CE.cmp rfl (by with_unfolding_all rfl) ?_ ?_ | refine CE.neg ?_ | refine CE.inv ?_ | refine CE.bop ?_ | refine CE.ite ?_ ?_ ?_
    | refine CE.cut ?_ | refine CE.sub rfl ?_ ?_ | refine CE.lst ?_ | refine CE.tup ?_
    | refine CE.len (by unfold gl; decide +kernel) rfl ?_ | refine CE.isi _ _ (by unfold gl; decide +kernel) (by unfold gl; decide +kernel) (by decide +kernel) (by rfl) rfl ?_ | refine CE.cpy (by unfold gl; decide +kernel) rfl ?_
    | refine CE.rng (by unfold gl; decide +kernel) ?_ | refine CE.enu (by unfold gl; decide +kernel) rfl ?_ | refine CE.join rfl rfl ?_
    | refine CE.pop0 rfl ?_ | refine CE.pop rfl ?_ | refine CE.app rfl rfl ?_ ?_ | refine CE.ext rfl rfl ?_ ?_ | refine CE.rev rfl ?_ | refine CE.srt rfl ?_
    | refine CE.comp rfl (by decide +kernel) ?_ (fun _ _ => rfl) ?_ ?_ ?_ ?_
    | refine CE.call _ (by decide +kernel) (by unfold gl; decide +kernel) (by decide +kernel) (by simp) ?_
    | exact CE.refu (by unfold gl; decide +kernel))
set_option maxHeartbeats 0 in
theorem c_ln : CSts n_ln (defOf "_law_numbers").2.1 b_ln := by
  unfold b_ln
  repeat' (first
    | exact CSts.nil | refine CSts.cons ?_ ?_ | exact CEs.nil | refine CEs.cons rfl ?_ ?_
    | exact CSt.dead | exact CE.dead rfl
    | refine CSt.asg (by (intro env h1 h2; rcases env with ⟨⟨_, _⟩⟩; simp only at h1 h2; subst h1 h2; rfl)) ?_ ?_ | refine CSt.asgC (by (intro env h1 h2; rcases env with ⟨⟨_, _⟩⟩; simp only at h1 h2; subst h1 h2; rfl)) ?_ ?_ | refine CSt.asgT rfl rfl ?_ ?_ | refine CSt.asgW ["text", "runs"] (by (intro env h1 h2; rcases env with ⟨⟨_, _⟩⟩; simp only at h1 h2; subst h1 h2; kernel_rfl)) (NRs.cons (by decide +kernel) (by decide +kernel) (NRs.cons (by decide +kernel) (by decide +kernel) NRs.nil)) ?_ | refine CSt.asgW ["plain", "named", "short"] (by (intro env h1 h2; rcases env with ⟨⟨_, _⟩⟩; simp only at h1 h2; subst h1 h2; kernel_rfl)) (NRs.cons (by decide +kernel) (by decide +kernel) (NRs.cons (by decide +kernel) (by decide +kernel) (NRs.cons (by decide +kernel) (by decide +kernel) NRs.nil))) ?_
    | refine CSt.sto rfl rfl ?_ ?_ ?_ | refine CSt.aug (by decide +kernel) (by decide +kernel) ?_ | refine CSt.augs rfl ?_ ?_ ?_ | refine CSt.exp rfl ?_
    | refine CSt.ifs ?_ ?_ ?_ | refine CSt.whl ?_ ?_ | refine CSt.fr (fun _ _ => rfl) ?_ ?_ ?_ | refine CSt.ret ?_ | exact CSt.rais _ (by unfold gl; decide +kernel) (by decide +kernel) | refine CSt.trc _ (by decide +kernel) (by unfold gl; decide +kernel) (by decide +kernel) rfl ?_ (by unfold gl; decide +kernel) ?_
    | exact TR.loc _ _ _ (by decide +kernel) (by decide +kernel) | exact TR.cel _ _ _ (by decide +kernel) (by decide +kernel)
    | exact TRs.nil | refine TRs.cons ?_ ?_ | refine TP.two ?_ ?_ | refine TP.one ?_
    | exact NRs.nil | refine NRs.cons (by decide +kernel) (by decide +kernel) ?_
    | exact CSRs.nil | refine CSRs.cons ?_ ?_ | exact CSR.loc _ | exact CSR.oth _ | exact CSR.fre _ _ _ (by decide +kernel) (.inl rfl) | exact CSR.fre _ _ _ (by decide +kernel) (.inr rfl)
    | exact CE.int _ _ _ | exact CE.str _ _ _ | exact CE.bool _ _ _ | exact CE.none _ _
    | exact CE.loc _ _ _ (by decide +kernel) (by decide +kernel) (by decide +kernel) | exact CE.cel _ _ _ (by decide +kernel) (by decide +kernel) (by decide +kernel) | exact CE.fre _ _ _ (by decide +kernel) (by decide +kernel) (by decide +kernel) (by decide +kernel)
    | refine CE.bin rfl ?_ ?_ | refine CE.cmp rfl (by with_unfolding_all rfl) ?_ ?_ | refine CE.neg ?_ | refine CE.inv ?_ | refine CE.bop ?_ | refine CE.ite ?_ ?_ ?_
    | refine CE.cut ?_ | refine CE.sub rfl ?_ ?_ | refine CE.lst ?_ | refine CE.tup ?_
    | refine CE.len (by unfold gl; decide +kernel) rfl ?_ | refine CE.isi _ _ (by unfold gl; decide +kernel) (by unfold gl; decide +kernel) (by decide +kernel) (by rfl) rfl ?_ | refine CE.cpy (by unfold gl; decide +kernel) rfl ?_
    | refine CE.rng (by unfold gl; decide +kernel) ?_ | refine CE.enu (by unfold gl; decide +kernel) rfl ?_ | refine CE.join rfl rfl ?_
    | refine CE.pop0 rfl ?_ | refine CE.pop rfl ?_ | refine CE.app rfl rfl ?_ ?_ | refine CE.ext rfl rfl ?_ ?_ | refine CE.rev rfl ?_ | refine CE.srt rfl ?_
    | refine CE.comp rfl (by decide +kernel) ?_ (fun _ _ => rfl) ?_ ?_ ?_ ?_
    | refine CE.call _ (by decide +kernel) (by unfold gl; decide +kernel) (by decide +kernel) (by simp) ?_
    | exact CE.refu (by unfold gl; decide +kernel))
set_option maxHeartbeats 0 in
theorem c_rf : CSts n_rf (defOf "_law_refused").2.1 b_rf := by
  unfold b_rf
  repeat' (first
    | exact CSts.nil | refine CSts.cons ?_ ?_ | exact CEs.nil | refine CEs.cons rfl ?_ ?_
    | exact CSt.dead | exact CE.dead rfl
    | refine CSt.asg (by (intro env h1 h2; rcases env with ⟨⟨_, _⟩⟩; simp only at h1 h2; subst h1 h2; rfl)) ?_ ?_ | refine CSt.asgC (by (intro env h1 h2; rcases env with ⟨⟨_, _⟩⟩; simp only at h1 h2; subst h1 h2; rfl)) ?_ ?_ | refine CSt.asgT rfl rfl ?_ ?_ | refine CSt.asgW ["text", "runs"] (by (intro env h1 h2; rcases env with ⟨⟨_, _⟩⟩; simp only at h1 h2; subst h1 h2; kernel_rfl)) (NRs.cons (by decide +kernel) (by decide +kernel) (NRs.cons (by decide +kernel) (by decide +kernel) NRs.nil)) ?_ | refine CSt.asgW ["plain", "named", "short"] (by (intro env h1 h2; rcases env with ⟨⟨_, _⟩⟩; simp only at h1 h2; subst h1 h2; kernel_rfl)) (NRs.cons (by decide +kernel) (by decide +kernel) (NRs.cons (by decide +kernel) (by decide +kernel) (NRs.cons (by decide +kernel) (by decide +kernel) NRs.nil))) ?_
    | refine CSt.sto rfl rfl ?_ ?_ ?_ | refine CSt.aug (by decide +kernel) (by decide +kernel) ?_ | refine CSt.augs rfl ?_ ?_ ?_ | refine CSt.exp rfl ?_
    | refine CSt.ifs ?_ ?_ ?_ | refine CSt.whl ?_ ?_ | refine CSt.fr (fun _ _ => rfl) ?_ ?_ ?_ | refine CSt.ret ?_ | exact CSt.rais _ (by unfold gl; decide +kernel) (by decide +kernel) | refine CSt.trc _ (by decide +kernel) (by unfold gl; decide +kernel) (by decide +kernel) rfl ?_ (by unfold gl; decide +kernel) ?_
    | exact TR.loc _ _ _ (by decide +kernel) (by decide +kernel) | exact TR.cel _ _ _ (by decide +kernel) (by decide +kernel)
    | exact TRs.nil | refine TRs.cons ?_ ?_ | refine TP.two ?_ ?_ | refine TP.one ?_
    | exact NRs.nil | refine NRs.cons (by decide +kernel) (by decide +kernel) ?_
    | exact CSRs.nil | refine CSRs.cons ?_ ?_ | exact CSR.loc _ | exact CSR.oth _ | exact CSR.fre _ _ _ (by decide +kernel) (.inl rfl) | exact CSR.fre _ _ _ (by decide +kernel) (.inr rfl)
    | exact CE.int _ _ _ | exact CE.str _ _ _ | exact CE.bool _ _ _ | exact CE.none _ _
    | exact CE.loc _ _ _ (by decide +kernel) (by decide +kernel) (by decide +kernel) | exact CE.cel _ _ _ (by decide +kernel) (by decide +kernel) (by decide +kernel) | exact CE.fre _ _ _ (by decide +kernel) (by decide +kernel) (by decide +kernel) (by decide +kernel)
    | refine CE.bin rfl ?_ ?_ | refine CE.cmp rfl (by with_unfolding_all rfl) ?_ ?_ | refine CE.neg ?_ | refine CE.inv ?_ | refine CE.bop ?_ | refine CE.ite ?_ ?_ ?_
    | refine CE.cut ?_ | refine CE.sub rfl ?_ ?_ | refine CE.lst ?_ | refine CE.tup ?_
    | refine CE.len (by unfold gl; decide +kernel) rfl ?_ | refine CE.isi _ _ (by unfold gl; decide +kernel) (by unfold gl; decide +kernel) (by decide +kernel) (by rfl) rfl ?_ | refine CE.cpy (by unfold gl; decide +kernel) rfl ?_
    | refine CE.rng (by unfold gl; decide +kernel) ?_ | refine CE.enu (by unfold gl; decide +kernel) rfl ?_ | refine CE.join rfl rfl ?_
    | refine CE.pop0 rfl ?_ | refine CE.pop rfl ?_ | refine CE.app rfl rfl ?_ ?_ | refine CE.ext rfl rfl ?_ ?_ | refine CE.rev rfl ?_ | refine CE.srt rfl ?_
    | refine CE.comp rfl (by decide +kernel) ?_ (fun _ _ => rfl) ?_ ?_ ?_ ?_
    | refine CE.call _ (by decide +kernel) (by unfold gl; decide +kernel) (by decide +kernel) (by simp) ?_
    | exact CE.refu (by unfold gl; decide +kernel))
set_option maxHeartbeats 0 in
theorem c_la : CSts n_la (defOf "law").2.1 b_la := by
  unfold b_la
  repeat' (first
    | exact CSts.nil | refine CSts.cons ?_ ?_ | exact CEs.nil | refine CEs.cons rfl ?_ ?_
    | exact CSt.dead | exact CE.dead rfl
    | refine CSt.asg (by (intro env h1 h2; rcases env with ⟨⟨_, _⟩⟩; simp only at h1 h2; subst h1 h2; rfl)) ?_ ?_ | refine CSt.asgC (by (intro env h1 h2; rcases env with ⟨⟨_, _⟩⟩; simp only at h1 h2; subst h1 h2; rfl)) ?_ ?_ | refine CSt.asgT rfl rfl ?_ ?_ | refine CSt.asgW ["text", "runs"] (by (intro env h1 h2; rcases env with ⟨⟨_, _⟩⟩; simp only at h1 h2; subst h1 h2; kernel_rfl)) (NRs.cons (by decide +kernel) (by decide +kernel) (NRs.cons (by decide +kernel) (by decide +kernel) NRs.nil)) ?_ | refine CSt.asgW ["plain", "named", "short"] (by (intro env h1 h2; rcases env with ⟨⟨_, _⟩⟩; simp only at h1 h2; subst h1 h2; kernel_rfl)) (NRs.cons (by decide +kernel) (by decide +kernel) (NRs.cons (by decide +kernel) (by decide +kernel) (NRs.cons (by decide +kernel) (by decide +kernel) NRs.nil))) ?_
    | refine CSt.sto rfl rfl ?_ ?_ ?_ | refine CSt.aug (by decide +kernel) (by decide +kernel) ?_ | refine CSt.augs rfl ?_ ?_ ?_ | refine CSt.exp rfl ?_
    | refine CSt.ifs ?_ ?_ ?_ | refine CSt.whl ?_ ?_ | refine CSt.fr (fun _ _ => rfl) ?_ ?_ ?_ | refine CSt.ret ?_ | exact CSt.rais _ (by unfold gl; decide +kernel) (by decide +kernel) | refine CSt.trc _ (by decide +kernel) (by unfold gl; decide +kernel) (by decide +kernel) rfl ?_ (by unfold gl; decide +kernel) ?_
    | exact TR.loc _ _ _ (by decide +kernel) (by decide +kernel) | exact TR.cel _ _ _ (by decide +kernel) (by decide +kernel)
    | exact TRs.nil | refine TRs.cons ?_ ?_ | refine TP.two ?_ ?_ | refine TP.one ?_
    | exact NRs.nil | refine NRs.cons (by decide +kernel) (by decide +kernel) ?_
    | exact CSRs.nil | refine CSRs.cons ?_ ?_ | exact CSR.loc _ | exact CSR.oth _ | exact CSR.fre _ _ _ (by decide +kernel) (.inl rfl) | exact CSR.fre _ _ _ (by decide +kernel) (.inr rfl)
    | exact CE.int _ _ _ | exact CE.str _ _ _ | exact CE.bool _ _ _ | exact CE.none _ _
    | exact CE.loc _ _ _ (by decide +kernel) (by decide +kernel) (by decide +kernel) | exact CE.cel _ _ _ (by decide +kernel) (by decide +kernel) (by decide +kernel) | exact CE.fre _ _ _ (by decide +kernel) (by decide +kernel) (by decide +kernel) (by decide +kernel)
    | refine CE.bin rfl ?_ ?_ | refine CE.cmp rfl (by with_unfolding_all rfl) ?_ ?_ | refine CE.neg ?_ | refine CE.inv ?_ | refine CE.bop ?_ | refine CE.ite ?_ ?_ ?_
    | refine CE.cut ?_ | refine CE.sub rfl ?_ ?_ | refine CE.lst ?_ | refine CE.tup ?_
    | refine CE.len (by unfold gl; decide +kernel) rfl ?_ | refine CE.isi _ _ (by unfold gl; decide +kernel) (by unfold gl; decide +kernel) (by decide +kernel) (by rfl) rfl ?_ | refine CE.cpy (by unfold gl; decide +kernel) rfl ?_
    | refine CE.rng (by unfold gl; decide +kernel) ?_ | refine CE.enu (by unfold gl; decide +kernel) rfl ?_ | refine CE.join rfl rfl ?_
    | refine CE.pop0 rfl ?_ | refine CE.pop rfl ?_ | refine CE.app rfl rfl ?_ ?_ | refine CE.ext rfl rfl ?_ ?_ | refine CE.rev rfl ?_ | refine CE.srt rfl ?_
    | refine CE.comp rfl (by decide +kernel) ?_ (fun _ _ => rfl) ?_ ?_ ?_ ?_
    | refine CE.call _ (by decide +kernel) (by unfold gl; decide +kernel) (by decide +kernel) (by simp) ?_
    | exact CE.refu (by unfold gl; decide +kernel))
end Mine
end
section
open PySem PySem.Calls PyProof.Rows PySem.W PySem.SeqAt
namespace Mine
set_option maxRecDepth 100000
set_option autoImplicit false
set_option linter.unusedVariables false

def HasDef (p : Program) (n : Str) : Prop := ∃ pos, (⟨n, (defOf n).1, (defOf n).2.1, (defOf n).2.2, pos⟩ : DefRec) ∈ recsOf p

section
variable {p : Program} {loose : List Str} {mean : ExcName → Option Value} {mg mb : Str → Option Value} {h : Heap}

theorem fnOK_plain {n x : Str} {fn : FnD} {nm : Nm} (T : Top p loose mean mg mb h) (hR : HasDef p n) (hnm : (defOf n).2.2.names = nm) (hk : (defOf n).2.2.kind = .function) (hco : (defOf n).2.2.isCoroutine = false) (hgen : (defOf n).2.2.isGenerator = false)
    (nd : (nm.map (·.1)).Nodup) (har : fn.ar = 1) (hps : psOks [x] nm fn.sl = true) (hlk : nm.lookup x = some .local ∨ nm.lookup x = some .cell) (hcs : CSts nm (defOf n).2.1 fn.body) (hdfl : fn.dfl = [])
    (hbind : ∀ v pm cd doc, bindArgs (docDef n (defOf n).1 (defOf n).2.1 (defOf n).2.2 pm cd doc) ⟨[v], []⟩ = pure [(x, v)]) : FnOK h mg n fn := by
  obtain ⟨pos, hR⟩ := hR
  obtain ⟨a, o, pm, cd, doc, g1, g2, g3, g4⟩ := T.fn _ hR
  refine ⟨a, o, _, (defOf n).2.1, [x], [], g1, g2, g3, rfl, rfl, rfl, rfl, g4, hk, hco, hgen, ?_, by simp, by rw [har]; rfl, ?_, ?_, ?_, ?_, ?_⟩
  · show ((defOf n).2.2.names.map (·.1)).Nodup
    rw [hnm]; exact nd
  · intro y hy
    simp at hy
    subst hy
    show (defOf n).2.2.names.lookup y = some NameKind.local ∨ (defOf n).2.2.names.lookup y = some NameKind.cell
    rw [hnm]; exact hlk
  · show psOks [x] (defOf n).2.2.names fn.sl = true
    rw [hnm]; exact hps
  · show CSts (defOf n).2.2.names _ _
    rw [hnm]; exact hcs
  · intro ρ σ; rw [hdfl]; exact .nil
  · intro s vals hs hl
    match vals, hl with
    | [v], _ => exact BindsTo.of_eq (hbind v pm cd doc)

theorem ok_mk (T : Top p loose mean mg mb h) (hR : HasDef p "make_compact") : FnOK h mg "make_compact" f_mk :=
  fnOK_plain (x := "creation_sequence") (nm := n_mk) T hR (by decide +kernel) (by rfl) (by rfl) (by rfl) (by decide +kernel) rfl (by decide +kernel) (.inl (by decide +kernel)) c_mk rfl (fun v pm cd doc => by kernel_rfl)
theorem ok_un (T : Top p loose mean mg mb h) (hR : HasDef p "uncompact") : FnOK h mg "uncompact" f_un :=
  fnOK_plain (x := "creation_sequence") (nm := n_un) T hR (by decide +kernel) (by rfl) (by rfl) (by rfl) (by decide +kernel) rfl (by decide +kernel) (.inl (by decide +kernel)) c_un rfl (fun v pm cd doc => by kernel_rfl)
theorem ok_cw (T : Top p loose mean mg mb h) (hR : HasDef p "creation_sequence_to_weights") : FnOK h mg "creation_sequence_to_weights" f_cw :=
  fnOK_plain (x := "creation_sequence") (nm := n_cw) T hR (by decide +kernel) (by rfl) (by rfl) (by rfl) (by decide +kernel) rfl (by decide +kernel) (.inl (by decide +kernel)) c_cw rfl (fun v pm cd doc => by kernel_rfl)
theorem ok_lr (T : Top p loose mean mg mb h) (hR : HasDef p "_law_runs") : FnOK h mg "_law_runs" f_lr :=
  fnOK_plain (x := "letters") (nm := n_lr) T hR (by decide +kernel) (by rfl) (by rfl) (by rfl) (by decide +kernel) rfl (by decide +kernel) (.inl (by decide +kernel)) c_lr rfl (fun v pm cd doc => by kernel_rfl)
theorem ok_lw (T : Top p loose mean mg mb h) (hR : HasDef p "_law_whole") : FnOK h mg "_law_whole" f_lw :=
  fnOK_plain (x := "letters") (nm := n_lw) T hR (by decide +kernel) (by rfl) (by rfl) (by rfl) (by decide +kernel) rfl (by decide +kernel) (.inr (by decide +kernel)) c_lw rfl (fun v pm cd doc => by kernel_rfl)

theorem ok_ln (T : Top p loose mean mg mb h) (hR : HasDef p "_law_numbers") : FnOK h mg "_law_numbers" f_ln := by
  obtain ⟨pos, hR⟩ := hR
  obtain ⟨a, o, pm, cd, doc, g1, g2, g3, g4⟩ := T.fn _ hR
  refine ⟨a, o, _, (defOf "_law_numbers").2.1, ["script", "count"], [], g1, g2, g3, rfl, rfl, rfl, rfl, g4, by rfl, by rfl, by rfl, ?_, by decide +kernel, by rfl, ?_, ?_, ?_, ?_, ?_⟩
  · show ((defOf "_law_numbers").2.2.names.map (·.1)).Nodup
    decide +kernel
  · show ∀ x ∈ (["script", "count"] : List Str), (defOf "_law_numbers").2.2.names.lookup x = some NameKind.local ∨ (defOf "_law_numbers").2.2.names.lookup x = some NameKind.cell
    decide +kernel
  · show psOks ["script", "count"] (defOf "_law_numbers").2.2.names f_ln.sl = true
    decide +kernel
  · show CSts (defOf "_law_numbers").2.2.names _ _
    have : (defOf "_law_numbers").2.2.names = n_ln := by decide +kernel
    rw [this]; exact c_ln
  · intro ρ σ; exact .nil
  · intro s vals hs hl
    match vals, hl with
    | [x, y], _ =>
      have hb : bindArgs (docDef "_law_numbers" (defOf "_law_numbers").1 (defOf "_law_numbers").2.1 (defOf "_law_numbers").2.2 pm cd doc) ⟨[x, y], []⟩ = pure ((["script", "count"] : List Str).zip [x, y]) := by kernel_rfl
      exact BindsTo.of_eq hb

def wcN : Str := "weights_to_creation_sequence"
theorem ok_wc {a T : Addr} {o ot : Obj} {pm cd doc kV v1 : Value} {nn : Nat} (g1 : mg wcN = some (.ref a)) (g2 : h.get? a = some o) (g3 : o.data = .func { docDef wcN (defOf wcN).1 (defOf wcN).2.1 (defOf wcN).2.2 pm cd doc with defaults := .ref T, kwdefaults := kV }) (g4 : h.CodeRec cd wcN)
    (h1 : h.get? T = some ot) (h2 : ot.data = .seq (List.toArray [v1, .bool false, .bool false]) nn) : FnOK h mg wcN f_wc := by
  refine ⟨a, o, _, (defOf wcN).2.1, ["weights", "threshold", "with_labels", "compact"], [.bool false, .bool false], g1, g2, g3, rfl, rfl, rfl, rfl, g4, by rfl, by rfl, by rfl, ?_, by decide +kernel, by rfl, ?_, ?_, ?_, ?_, ?_⟩
  · show ((defOf wcN).2.2.names.map (·.1)).Nodup
    decide +kernel
  · show ∀ x ∈ (["weights", "threshold", "with_labels", "compact"] : List Str), (defOf wcN).2.2.names.lookup x = some NameKind.local ∨ (defOf wcN).2.2.names.lookup x = some NameKind.cell
    decide +kernel
  · show psOks ["weights", "threshold", "with_labels", "compact"] (defOf wcN).2.2.names f_wc.sl = true
    decide +kernel
  · show CSts (defOf wcN).2.2.names _ _
    have : (defOf wcN).2.2.names = n_wc := by decide +kernel
    rw [this]; exact c_wc
  · intro ρ σ; exact .cons (.bool _) (.cons (.bool _) .nil)
  · intro s vals hs hl
    match vals, hl with
    | [x, y], _ =>
      intro M A E Q hq
      unfold bindArgs
      dsimp only
      rw [List.forIn_nil]
      refine wpAny_bind (wpAny_pure ?_)
      refine wpAny_bind (wpAny_seqItems (hs _ _ h1) h2 ?_)
      refine wpAny_of_eq (a := List.zip (["weights", "threshold", "with_labels", "compact"] : List Str) ([x, y] ++ [Value.bool false, Value.bool false])) ?_ hq
      kernel_rfl

structure Defs (p : Program) : Prop where
  d_mk : HasDef p "make_compact"
  d_un : HasDef p "uncompact"
  d_cw : HasDef p "creation_sequence_to_weights"
  d_lr : HasDef p "_law_runs"
  d_lw : HasDef p "_law_whole"
  d_ln : HasDef p "_law_numbers"
  d_rf : HasDef p "_law_refused"
  d_la : HasDef p "law"

theorem fns_ok (T : Top p loose mean mg mb h) (W : FnOK h mg wcN f_wc) (D : Defs p) : FnsOK h mg PP := by
  intro k f fn hf hfn
  match k, hf, hfn with
  | 0, hf, hfn => cases hf; cases hfn; exact ok_mk T D.d_mk
  | 1, hf, hfn => cases hf; cases hfn; exact ok_un T D.d_un
  | 2, hf, hfn => cases hf; cases hfn; exact ok_cw T D.d_cw
  | 3, hf, hfn => cases hf; cases hfn; exact W
  | 4, hf, hfn => cases hf; cases hfn; exact ok_lr T D.d_lr
  | 5, hf, hfn => cases hf; cases hfn; exact ok_lw T D.d_lw
  | 6, hf, hfn => cases hf; cases hfn; exact ok_ln T D.d_ln
  | k + 7, hf, _ => simp [fnNames] at hf

theorem gf_ok (T : Top p loose mean mg mb h) (hbk : NoneBooked h) (hfree : ∀ x ∈ biNames, x ∉ startupNames ∧ x ∉ loose ∧ x ∉ (recsOf p).map (·.name) ∧ x ∉ (litsOf p).map (·.1) ∧ x ∉ (clssOf p loose).map (·.name)) : GF h mg mb where
  g := T.g
  b := T.b
  nolimit := T.nolimit
  booked := hbk
  bi := fun x hx => by
    obtain ⟨h1, h2, h3, h4, h5⟩ := hfree x hx
    refine ⟨T.free x h1 h2 h3 h4 h5, T.builtins x ?_⟩
    intro e
    subst e
    revert hx
    decide +kernel
end
end Mine
end
section
open PySem PySem.Calls PyProof.Rows PySem.W PySem.SeqAt
namespace Mine
set_option maxRecDepth 100000
set_option autoImplicit false
set_option linter.unusedVariables false

theorem HR.sdead {ρ : Nat → Int} {σ : List Addr} {H : List O} {h : Heap} {b : Addr} (hr : HR ρ σ H h) (e : h.get? b = none) : b ∉ σ := fun hm => by
  obtain ⟨n, hn⟩ := mem_getQ hm
  obtain ⟨o, q⟩ := hr.live hn
  rw [e] at q; cases q

section
variable {prog : Program} {w : World} {ρ : Nat → Int} {hb : Heap} {mg mb : Str → Option Value} {H : List O} {σ : List Addr} {s : Shared} {A : Around}

theorem callCore (G : GF hb mg mb) {f : Str} {fn : FnD} (FO : FnOK hb mg f fn) {vs : List V} {vals : List Value} {sl : List Sl} {H2 : List O} {R : Result → Shared → Prop}
    (hdep : A.depth < recursionLimit) (ht : 1 ≤ s.toks) (base : ∀ b o, hb.get? b = some o → s.heap.get? b = some o) (hr : HR ρ σ H s.heap) (hnodup : σ.Nodup) (hv : VRs ρ σ vs vals) (har : vs.length + fn.dfl.length = fn.ar) (hmk : mkF (vs ++ fn.dfl) fn.sl H = (sl, H2))
    (k : ∀ (cenv : Env) (nmf : Nm) (body : List PySem.Stmt) (h1 : Heap) (t1 : Nat) (τ : List Addr), cenv.frame = some cenv.locals → 1 ≤ t1 → CSts nmf body fn.body → Inv ρ hb nmf cenv ⟨sl, H.length⟩ H2 (σ ++ τ) h1 → (∀ a ∈ τ, s.heap.get? a = none) → s.heap.get? cenv.locals = none → (∀ b o, s.heap.get? b = some o → h1.get? b = some o) →
      wpAny (model prog w) (A.deeper cenv) (execs body cenv) (fun f s' => R (.ok (.ret (match f with | .ret v => v | _ => .none))) s')
        (fun e s' => wpAny (model prog w) (A.deeper cenv) (leaving cenv e) (fun _ s'' => R (.error e) s'') (fun e' s'' => R (.error e') s'') s') { s with heap := h1, toks := t1 }) :
    ∃ a o fd, mg f = some (.ref a) ∧ hb.get? a = some o ∧ o.data = .func fd ∧ codeAny (model prog w) A (.call (.ref a) ⟨vals, []⟩) R s := by
  obtain ⟨a, o, fd, body, params, dv, hmg, ho, hd, hbody, hclo, hglob, hbt, hcd, hkind, hco, hgen, hnd, hpn, hpl, hpk, hps, hcs, hdv, hbind⟩ := FO.ex
  refine ⟨a, o, fd, hmg, ho, hd, ?_⟩
  have hdl := (hdv ρ σ).length
  have hvl := hv.length
  have hlen : vals.length + dv.length = params.length := by omega
  have hlen2 : params.length = (vals ++ dv).length := by rw [List.length_append]; omega
  have hvd : VRs ρ σ (vs ++ fn.dfl) (vals ++ dv) := hv.append (hdv ρ σ)
  have hbdead : ∀ b, s.heap.get? b = none → hb.get? b = none := fun b e => by
    cases q : hb.get? b with
    | none => rfl
    | some o => have := base b o q; rw [e] at this; cases this
  refine codeAny_call_function hdep (base a o ho) hd hco hgen hbody (hcd.keeps base) (hbind s vals base hlen _ _ _ _ ?_)
  rw [hclo]
  refine wpAny_with_toks (n := 1) ht ?_
  refine wpAny_newFunctionEnv_cells hkind (fun x hx => ?_) fun cenv he s' X htk0 => ?_
  · rcases hpk x.1 (mem_zip_fst hx) with q | q
    · exact .inl q
    · exact .inr ⟨q, cell_isSome hnd q⟩
  · have hcells : cenv.cells = cellsFrom (s.heap.objs.size + 1) fd.scope.names [] := by rw [he]; rfl
    have hloc : cenv.locals = s.heap.objs.size := by rw [he]; rfl
    have hscope : cenv.scope = fd.scope := by rw [he]; rfl
    have hg : cenv.globals = mainGlobals := by rw [he]; exact hglob
    have hbb : cenv.builtins = builtinsNs := by rw [he]; exact hbt
    have hko : ∀ x, cenv.kindOf x = fd.scope.names.lookup x := fun x => by unfold Env.kindOf; rw [hscope]
    obtain ⟨h1, t1, hs', hk1⟩ := X.done
    subst hs'
    have hns : h1.Ns cenv.locals _ := X.toInCall.ns
    have Inl : h1.NoLimit := (G.nolimit.keeps base).keeps hk1
    have hlk : ∀ x kd, (x, kd) ∈ fd.scope.names → fd.scope.names.lookup x = some kd := fun x kd hx => lookup_nodup hnd (x, kd) hx
    obtain ⟨g1, g2⟩ := mkF_sound (ρ := ρ) (params := params) (vs := vs ++ fn.dfl) (vals := vals ++ dv) (m := bindL cenv.kindOf (params.zip (vals ++ dv)) fun _ => none) (cm := bindC cenv.kindOf (params.zip (vals ++ dv)) fun _ => none) (cl := cenv.cells) (h := h1) (full := fd.scope.names)
      (fun x k hx hk => bindL_get (by rw [hko]; exact hlk x _ hx) params _ _ k hpn hlen2 hk) (fun x hx => bindL_miss params _ _ hx)
      (fun x k hx hk => bindC_get (by rw [hko]; exact hlk x _ hx) params _ _ k hpn hlen2 hk) (fun x hx => bindC_miss params _ _ hx)
      fd.scope.names fn.sl (s.heap.objs.size + 1) σ H (fun x hx => hx) hps hvd
      ⟨hr.len, fun n o a e e' => by have := (hr.obj n o a e e').ext (τ := []) (h' := h1) fun ob q => hk1 a ob q; simpa using this⟩
      (fun x c hc => by
        have e1 : cenv.cells.lookup x = some c := by rw [hcells]; exact cells_lookup hnd hc
        exact ⟨e1, X.cell x c e1⟩)
    rw [hmk] at g1 g2
    simp only at g1 g2
    have hnew : ∀ c ∈ (cellAts (s.heap.objs.size + 1) fd.scope.names).map (·.2), s.heap.get? c = none ∧ c ≠ cenv.locals := fun c hc => by
      have := cellAts_ge _ _ c hc
      exact ⟨none_ge (Nat.le_of_succ_le this), by rw [hloc]; exact Nat.ne_of_gt this⟩
    have hL0 : s.heap.get? cenv.locals = none := by rw [hloc]; exact none_ge (Nat.le_refl _)
    have I1 : Inv ρ hb fd.scope.names cenv ⟨sl, H.length⟩ H2 (σ ++ (cellAts (s.heap.objs.size + 1) fd.scope.names).map (·.2)) h1 :=
      { kind := by rw [hscope]; exact hkind
        names := by rw [hscope]
        glob := hg
        bt := hbb
        base := fun b o e => hk1 b o (base b o e)
        nd := hnd
        ns := ⟨_, hns, g1⟩
        hr := g2
        nodup := List.nodup_append.mpr ⟨hnodup, cellAts_nodup2 _ _, fun a ha b hb' e => by
          subst e
          exact hr.sdead (hnew a hb').1 ha⟩
        loc := fun hm => by
          rcases List.mem_append.mp hm with q | q
          · exact hr.sdead hL0 q
          · exact (hnew _ q).2 rfl
        lb := hbdead _ hL0
        mtb := fun n a hn e => by
          have hn' : σ.length ≤ n := by rw [hr.len]; exact hn
          rw [List.getElem?_append_right hn'] at e
          exact hbdead _ (hnew a (List.mem_of_getElem? e)).1
        fzle := by
          show H.length ≤ H2.length
          have a1 := g2.len
          have a2 := hr.len
          simp at a1
          omega }
    exact ⟨Inl, codeAny_func (k cenv fd.scope.names body h1 t1 _ (by rw [he]; rfl) htk0 hcs I1 (fun a ha => (hnew a ha).1) hL0 hk1)⟩
end
end Mine
end
section
open PySem PySem.Calls PyProof.Rows PySem.W PySem.SeqAt
namespace Mine
set_option maxRecDepth 100000
set_option autoImplicit false
set_option linter.unusedVariables false

def scr (n : Nat) : List V := (List.range n).map fun j => .lin 1 j 0
def nums : Nat → List V
  | 0 => List.replicate 10 (.int 0)
  | n + 1 => (List.range 10).map fun k => .lin 1 (k % (n + 1)) 0
def st0 : S := b_la.headD .dead
def FirstIs (n : Nat) : Prop := stF (run ⟨none, []⟩ PP 12) ⟨(mkF [.ref 0] f_la.sl [.list (scr n)]).1, 1⟩ (mkF [.ref 0] f_la.sl [.list (scr n)]).2 st0 =
  some (.next, ⟨(mkF [.ref 0] f_la.sl [.list (scr n)]).1, 1⟩, [.list (scr n), .cell (some (.ref 5)), .cell none, .cell none, .cell (some (.ref 0)), .list (nums n)])
theorem first_0 : FirstIs 0 := by unfold FirstIs; kernel_rfl
theorem first_1 : FirstIs 1 := by unfold FirstIs; kernel_rfl
theorem first_2 : FirstIs 2 := by unfold FirstIs; kernel_rfl
theorem first_3 : FirstIs 3 := by unfold FirstIs; kernel_rfl
theorem first_4 : FirstIs 4 := by unfold FirstIs; kernel_rfl
theorem first_5 : FirstIs 5 := by unfold FirstIs; kernel_rfl
theorem first_6 : FirstIs 6 := by unfold FirstIs; kernel_rfl
theorem first_7 : FirstIs 7 := by unfold FirstIs; kernel_rfl
theorem first_8 : FirstIs 8 := by unfold FirstIs; kernel_rfl
theorem first_9 : FirstIs 9 := by unfold FirstIs; kernel_rfl
theorem first_10 : FirstIs 10 := by unfold FirstIs; kernel_rfl
theorem first_11 : FirstIs 11 := by unfold FirstIs; kernel_rfl
theorem first_12 : FirstIs 12 := by unfold FirstIs; kernel_rfl
theorem first_13 : FirstIs 13 := by unfold FirstIs; kernel_rfl
theorem first_14 : FirstIs 14 := by unfold FirstIs; kernel_rfl
theorem first_15 : FirstIs 15 := by unfold FirstIs; kernel_rfl
theorem first_16 : FirstIs 16 := by unfold FirstIs; kernel_rfl
theorem first_17 : FirstIs 17 := by unfold FirstIs; kernel_rfl
theorem first_18 : FirstIs 18 := by unfold FirstIs; kernel_rfl
theorem first_19 : FirstIs 19 := by unfold FirstIs; kernel_rfl
theorem first_20 : FirstIs 20 := by unfold FirstIs; kernel_rfl
theorem first_21 : FirstIs 21 := by unfold FirstIs; kernel_rfl
theorem first_22 : FirstIs 22 := by unfold FirstIs; kernel_rfl
theorem first_23 : FirstIs 23 := by unfold FirstIs; kernel_rfl
theorem first_24 : FirstIs 24 := by unfold FirstIs; kernel_rfl
theorem first_25 : FirstIs 25 := by unfold FirstIs; kernel_rfl
theorem first_26 : FirstIs 26 := by unfold FirstIs; kernel_rfl
theorem first_27 : FirstIs 27 := by unfold FirstIs; kernel_rfl
theorem first_28 : FirstIs 28 := by unfold FirstIs; kernel_rfl
theorem first_29 : FirstIs 29 := by unfold FirstIs; kernel_rfl
theorem first_30 : FirstIs 30 := by unfold FirstIs; kernel_rfl
theorem first_31 : FirstIs 31 := by unfold FirstIs; kernel_rfl
theorem first_32 : FirstIs 32 := by unfold FirstIs; kernel_rfl
theorem first_33 : FirstIs 33 := by unfold FirstIs; kernel_rfl
theorem first_34 : FirstIs 34 := by unfold FirstIs; kernel_rfl
theorem first_35 : FirstIs 35 := by unfold FirstIs; kernel_rfl
theorem first_36 : FirstIs 36 := by unfold FirstIs; kernel_rfl
theorem first_37 : FirstIs 37 := by unfold FirstIs; kernel_rfl
theorem first_38 : FirstIs 38 := by unfold FirstIs; kernel_rfl
theorem first_39 : FirstIs 39 := by unfold FirstIs; kernel_rfl
theorem first_40 : FirstIs 40 := by unfold FirstIs; kernel_rfl
theorem first_41 : FirstIs 41 := by unfold FirstIs; kernel_rfl
theorem first_42 : FirstIs 42 := by unfold FirstIs; kernel_rfl
theorem first_43 : FirstIs 43 := by unfold FirstIs; kernel_rfl
theorem first_44 : FirstIs 44 := by unfold FirstIs; kernel_rfl
theorem first_45 : FirstIs 45 := by unfold FirstIs; kernel_rfl
theorem first_46 : FirstIs 46 := by unfold FirstIs; kernel_rfl
theorem first_47 : FirstIs 47 := by unfold FirstIs; kernel_rfl
theorem first_48 : FirstIs 48 := by unfold FirstIs; kernel_rfl
theorem first_49 : FirstIs 49 := by unfold FirstIs; kernel_rfl
theorem first_50 : FirstIs 50 := by unfold FirstIs; kernel_rfl
theorem first_51 : FirstIs 51 := by unfold FirstIs; kernel_rfl
theorem first_52 : FirstIs 52 := by unfold FirstIs; kernel_rfl
theorem first_53 : FirstIs 53 := by unfold FirstIs; kernel_rfl
theorem first_54 : FirstIs 54 := by unfold FirstIs; kernel_rfl
theorem first_55 : FirstIs 55 := by unfold FirstIs; kernel_rfl
theorem first_56 : FirstIs 56 := by unfold FirstIs; kernel_rfl
theorem first_57 : FirstIs 57 := by unfold FirstIs; kernel_rfl
theorem first_58 : FirstIs 58 := by unfold FirstIs; kernel_rfl
theorem first_59 : FirstIs 59 := by unfold FirstIs; kernel_rfl
theorem first_60 : FirstIs 60 := by unfold FirstIs; kernel_rfl
theorem first_61 : FirstIs 61 := by unfold FirstIs; kernel_rfl
theorem first_62 : FirstIs 62 := by unfold FirstIs; kernel_rfl
theorem first_63 : FirstIs 63 := by unfold FirstIs; kernel_rfl
theorem first_all : ∀ n, n < 64 → FirstIs n
  | 0, _ => first_0
  | 1, _ => first_1
  | 2, _ => first_2
  | 3, _ => first_3
  | 4, _ => first_4
  | 5, _ => first_5
  | 6, _ => first_6
  | 7, _ => first_7
  | 8, _ => first_8
  | 9, _ => first_9
  | 10, _ => first_10
  | 11, _ => first_11
  | 12, _ => first_12
  | 13, _ => first_13
  | 14, _ => first_14
  | 15, _ => first_15
  | 16, _ => first_16
  | 17, _ => first_17
  | 18, _ => first_18
  | 19, _ => first_19
  | 20, _ => first_20
  | 21, _ => first_21
  | 22, _ => first_22
  | 23, _ => first_23
  | 24, _ => first_24
  | 25, _ => first_25
  | 26, _ => first_26
  | 27, _ => first_27
  | 28, _ => first_28
  | 29, _ => first_29
  | 30, _ => first_30
  | 31, _ => first_31
  | 32, _ => first_32
  | 33, _ => first_33
  | 34, _ => first_34
  | 35, _ => first_35
  | 36, _ => first_36
  | 37, _ => first_37
  | 38, _ => first_38
  | 39, _ => first_39
  | 40, _ => first_40
  | 41, _ => first_41
  | 42, _ => first_42
  | 43, _ => first_43
  | 44, _ => first_44
  | 45, _ => first_45
  | 46, _ => first_46
  | 47, _ => first_47
  | 48, _ => first_48
  | 49, _ => first_49
  | 50, _ => first_50
  | 51, _ => first_51
  | 52, _ => first_52
  | 53, _ => first_53
  | 54, _ => first_54
  | 55, _ => first_55
  | 56, _ => first_56
  | 57, _ => first_57
  | 58, _ => first_58
  | 59, _ => first_59
  | 60, _ => first_60
  | 61, _ => first_61
  | 62, _ => first_62
  | 63, _ => first_63
  | n + 64, h => absurd h (by omega)
end Mine
end
section
open PySem PySem.Calls PyProof.Rows PySem.W PySem.SeqAt
namespace Mine
set_option maxRecDepth 100000
set_option autoImplicit false
set_option linter.unusedVariables false

section
variable {ρ ρ' : Nat → Int} {σ σ2 : List Addr} {m : Str → Option Value} {cl : List (Str × Addr)}
theorem SlRs.map {f : Sl → Sl} {nm : Nm} {sl : List Sl} (h : SlRs ρ σ m cl nm sl) : (∀ p s, s ∈ sl → SlR ρ σ m cl p s → SlR ρ' σ2 m cl p (f s)) → SlRs ρ' σ2 m cl nm (sl.map f) := by
  induction h with
  | nil => intro _; exact .nil
  | cons h1 _ ih => intro g; exact .cons (g _ _ (.head _) h1) (ih fun p s hs => g p s (.tail _ hs))
end

theorem script_rel {ρ : Nat → Int} {σ : List Addr} : ∀ {vs : List Value} {ns : List Int} (k : Nat), IntsAre vs ns → (∀ i, i < ns.length → ρ (k + i) = ns.getD i 0) → VRs ρ σ ((List.range' k ns.length).map fun j => .lin 1 j 0) vs
  | [], [], k, .nil, _ => .nil
  | _ :: vs, z :: ns, k, .cons _ t h, hr => by
    have h0 := hr 0 (by simp)
    simp at h0
    refine .cons ?_ (script_rel (k + 1) h fun i hi => ?_)
    · have := VR.lin (ρ := ρ) (σ := σ) 1 k 0 t
      rw [h0] at this
      simpa using this
    · have := hr (i + 1) (by simpa using hi)
      simp at this
      rw [show k + 1 + i = k + (i + 1) by omega]
      exact this

theorem nums_rel {ρ : Nat → Int} {σ : List Addr} (n : Nat) {vs : List Value} (h : VRs ρ σ (nums n) vs) : ∃ ρ' : Nat → Int, ∀ σ2, VRs ρ' σ2 [.lin 1 0 0, .lin 1 1 0, .lin 1 2 0, .lin 1 3 0, .lin 1 4 0, .lin 1 5 0, .lin 1 6 0, .lin 1 7 0, .lin 1 8 0, .lin 1 9 0] vs := by
  cases n with
  | zero =>
    refine ⟨fun _ => 0, fun σ2 => ?_⟩
    have one : ∀ {v : Value} (j : Nat), VR ρ σ (.int 0) v → VR (fun _ => 0) σ2 (.lin 1 j 0) v := fun {v} j x => by
      obtain ⟨t, rfl⟩ := x.intE
      exact VR.lin (ρ := fun _ => (0 : Int)) (σ := σ2) 1 j 0 t
    change VRs ρ σ [.int 0, .int 0, .int 0, .int 0, .int 0, .int 0, .int 0, .int 0, .int 0, .int 0] vs at h
    cases h with | cons a0 h => cases h with | cons a1 h => cases h with | cons a2 h => cases h with | cons a3 h => cases h with | cons a4 h =>
    cases h with | cons a5 h => cases h with | cons a6 h => cases h with | cons a7 h => cases h with | cons a8 h => cases h with | cons a9 h => cases h with
    | nil => exact .cons (one 0 a0) (.cons (one 1 a1) (.cons (one 2 a2) (.cons (one 3 a3) (.cons (one 4 a4) (.cons (one 5 a5) (.cons (one 6 a6) (.cons (one 7 a7) (.cons (one 8 a8) (.cons (one 9 a9) .nil)))))))))
  | succ n =>
    refine ⟨fun k => ρ (k % (n + 1)), fun σ2 => ?_⟩
    have one : ∀ {v : Value} (j : Nat), VR ρ σ (.lin 1 (j % (n + 1)) 0) v → VR (fun k => ρ (k % (n + 1))) σ2 (.lin 1 j 0) v := fun {v} j x => by
      obtain ⟨t, rfl⟩ := x.linE
      exact VR.lin (ρ := fun k => ρ (k % (n + 1))) (σ := σ2) 1 j 0 t
    change VRs ρ σ [.lin 1 (0 % (n + 1)) 0, .lin 1 (1 % (n + 1)) 0, .lin 1 (2 % (n + 1)) 0, .lin 1 (3 % (n + 1)) 0, .lin 1 (4 % (n + 1)) 0, .lin 1 (5 % (n + 1)) 0, .lin 1 (6 % (n + 1)) 0, .lin 1 (7 % (n + 1)) 0, .lin 1 (8 % (n + 1)) 0, .lin 1 (9 % (n + 1)) 0] vs at h
    cases h with | cons a0 h => cases h with | cons a1 h => cases h with | cons a2 h => cases h with | cons a3 h => cases h with | cons a4 h =>
    cases h with | cons a5 h => cases h with | cons a6 h => cases h with | cons a7 h => cases h with | cons a8 h => cases h with | cons a9 h => cases h with
    | nil => exact .cons (one 0 a0) (.cons (one 1 a1) (.cons (one 2 a2) (.cons (one 3 a3) (.cons (one 4 a4) (.cons (one 5 a5) (.cons (one 6 a6) (.cons (one 7 a7) (.cons (one 8 a8) (.cons (one 9 a9) .nil)))))))))

/-! the bits -/
def bitsZ (z : Int) : Nat → Int → List Bool
  | 0, _ => []
  | n + 1, p => decide (Int.fmod (Int.fdiv z p) 2 = 1) :: bitsZ z n (p + p)
theorem bitsZ_len (z : Int) : ∀ n p, (bitsZ z n p).length = n
  | 0, _ => rfl
  | n + 1, p => by simp [bitsZ, bitsZ_len z n]
theorem fmod2 (x : Int) : Int.fmod x 2 = 0 ∨ Int.fmod x 2 = 1 := by
  have h1 := Int.fmod_nonneg_of_pos x (b := 2) (by decide)
  have h2 := Int.fmod_lt_of_pos x (b := 2) (by decide)
  omega
theorem bitsZ_ok (z d : Int) (b : Bool) : ∀ n p, bitAt (bitsZ z n p) p d = some b → Int.fmod (Int.fdiv z d) 2 = if b then 1 else 0
  | 0, p, h => by simp [bitsZ, bitAt] at h
  | n + 1, p, h => by
    simp only [bitsZ, bitAt] at h
    split at h
    · rename_i q
      have hd : d = p := of_decide_eq_true q
      subst hd
      cases h
      rcases fmod2 (Int.fdiv z d) with e | e
      · rw [e]; simp
      · rw [e]; simp
    · exact bitsZ_ok z d b n (p + p) h

def RowsOK : Prop := ∀ (r : Nat) (bits : List Bool), r < 8 → bits.length = r → rowOk 20 r bits = true

def slF : Sl → Sl
  | .loc (some _) => .loc (some .opq)
  | .cel n => .cel (n - 1)
  | x => x
theorem slF_law (n : Nat) : ((mkF [.ref 0] f_la.sl [.list (scr n)]).1).map slF = lawSl := by rfl
end Mine
end
section
open PySem
namespace Mine
set_option maxRecDepth 100000
set_option autoImplicit false
set_option linter.unusedVariables false

/-! a second evaluator, for the kernel: the heap a binary tree, small bodies, plain recursors -/
inductive Tr where
  | lf (j : Nat) (o : Option O) | nd (m : Nat) (l r : Tr)
structure Hp where
  t : Tr
  n : Nat
inductive Rg (α : Type) where
  | ok (a : α) (H : Hp) | er
inductive Rs where
  | nx (fm : Fm) (H : Hp) | rt (v : V) (fm : Fm) (H : Hp) | er
inductive Nx where
  | er | fin | one (v : V) (it : It) | two (v u : V) (it : It)
structure RecG where
  ev : Fm → Hp → X → Rg V
  ts : Fm → Hp → X → Rg Bool
  st : Fm → Hp → S → Rs

noncomputable section
def gB {α γ : Type} (x : Rg α) (e : γ) (f : α → Hp → γ) : γ := @Rg.rec α (fun _ => γ) f e x
def oB {α γ : Type} (x : Option α) (e : γ) (f : α → γ) : γ := @Option.rec α (fun _ => γ) e f x
def bB {γ : Type} (b : Bool) (e f : γ) : γ := @Bool.rec (fun _ => γ) e f b
def sB (x : Rs) (f : Fm → Hp → Rs) : Rs := @Rs.rec (fun _ => Rs) f (fun v fm H => .rt v fm H) .er x

theorem gB_ne {α γ : Type} {x : Rg α} {e t : γ} {f : α → Hp → γ} (h : gB x e f = t) (hne : e ≠ t) : ∃ a H, x = .ok a H ∧ f a H = t := by
  cases x with
  | ok a H => exact ⟨a, H, rfl, h⟩
  | er => exact absurd h hne
theorem oB_ne {α γ : Type} {x : Option α} {e t : γ} {f : α → γ} (h : oB x e f = t) (hne : e ≠ t) : ∃ a, x = some a ∧ f a = t := by
  cases x with
  | some a => exact ⟨a, rfl, h⟩
  | none => exact absurd h hne
theorem bB_ne {γ : Type} {b : Bool} {e f t : γ} (h : bB b e f = t) (hne : e ≠ t) : b = true ∧ f = t := by
  cases b with
  | true => exact ⟨rfl, h⟩
  | false => exact absurd h hne

/-! lists -/
def lget {α : Type} (xs : List α) : Nat → Option α := @List.rec α (fun _ => Nat → Option α) (fun _ => none) (fun a _ ih k => @Nat.rec (fun _ => Option α) (some a) (fun m _ => ih m) k) xs
def lset {α : Type} (xs : List α) : Nat → α → List α := @List.rec α (fun _ => Nat → α → List α) (fun _ _ => []) (fun a t ih k v => @Nat.rec (fun _ => List α) (v :: t) (fun m _ => a :: ih m v) k) xs
def lapp {α : Type} (xs ys : List α) : List α := @List.rec α (fun _ => List α) ys (fun a _ ih => a :: ih) xs
def llen {α : Type} (xs : List α) : Nat := @List.rec α (fun _ => Nat) 0 (fun _ _ ih => Nat.add ih 1) xs
def lrevA {α : Type} (xs : List α) : List α → List α := @List.rec α (fun _ => List α → List α) (fun acc => acc) (fun a _ ih acc => ih (a :: acc)) xs
def lrev {α : Type} (xs : List α) : List α := lrevA xs []
def lsm {α : Type} (xs : List α) : Bool := Nat.ble (llen xs) 1000

theorem lget_eq {α : Type} : ∀ (xs : List α) (k : Nat), lget xs k = xs[k]?
  | [], _ => rfl
  | _ :: _, 0 => rfl
  | _ :: t, k + 1 => lget_eq t k
theorem lset_eq {α : Type} : ∀ (xs : List α) (k : Nat) (v : α), lset xs k v = xs.set k v
  | [], _, _ => rfl
  | _ :: _, 0, _ => rfl
  | a :: t, k + 1, v => congrArg (a :: ·) (lset_eq t k v)
theorem lapp_eq {α : Type} : ∀ (xs ys : List α), lapp xs ys = xs ++ ys
  | [], _ => rfl
  | a :: t, ys => congrArg (a :: ·) (lapp_eq t ys)
theorem llen_eq {α : Type} : ∀ (xs : List α), llen xs = xs.length
  | [] => rfl
  | _ :: t => congrArg (· + 1) (llen_eq t)
theorem lrevA_eq {α : Type} : ∀ (xs acc : List α), lrevA xs acc = xs.reverse ++ acc
  | [], _ => rfl
  | a :: t, acc => by
    show lrevA t (a :: acc) = _
    rw [lrevA_eq t]; simp
theorem lrev_eq {α : Type} (xs : List α) : lrev xs = xs.reverse := by simp [lrev, lrevA_eq]
theorem lsm_eq {α : Type} (xs : List α) : lsm xs = Nat.ble xs.length 1000 := by rw [lsm, llen_eq]

/-! the tree -/
def tget (t : Tr) : Nat → Option O := @Tr.rec (fun _ => Nat → Option O) (fun j o k => @Bool.rec (fun _ => Option O) none o (Nat.beq j k)) (fun m _ _ gl gr k => @Bool.rec (fun _ => Option O) (gl k) (gr k) (Nat.ble m k)) t
def tset (t : Tr) : Nat → O → Tr := @Tr.rec (fun _ => Nat → O → Tr) (fun j o k v => .lf j (@Bool.rec (fun _ => Option O) o (some v) (Nat.beq j k))) (fun m l r sl sr k v => @Bool.rec (fun _ => Tr) (.nd m (sl k v) r) (.nd m l (sr k v)) (Nat.ble m k)) t
def tnew : Nat → Nat → Tr := @Nat.rec (fun _ => Nat → Tr) (fun b => .lf b none) (fun d ih b => .nd (Nat.add b (Nat.pow 2 d)) (ih b) (ih (Nat.add b (Nat.pow 2 d))))

theorem bB_t {γ : Type} (e f : γ) : bB true e f = f := rfl
theorem bB_f {γ : Type} (e f : γ) : bB false e f = e := rfl
theorem tget_lf (j : Nat) (o : Option O) (k : Nat) : tget (.lf j o) k = bB (Nat.beq j k) none o := rfl
theorem tget_nd (m : Nat) (l r : Tr) (k : Nat) : tget (.nd m l r) k = bB (Nat.ble m k) (tget l k) (tget r k) := rfl
theorem tset_lf (j : Nat) (o : Option O) (k : Nat) (v : O) : tset (.lf j o) k v = .lf j (bB (Nat.beq j k) o (some v)) := rfl
theorem tset_nd (m : Nat) (l r : Tr) (k : Nat) (v : O) : tset (.nd m l r) k v = bB (Nat.ble m k) (.nd m (tset l k v) r) (.nd m l (tset r k v)) := rfl
theorem tget_set : ∀ (t : Tr) (k m : Nat) (o o' : O), tget (tset t k o) m = some o' → (m = k ∧ o' = o) ∨ (m ≠ k ∧ tget t m = some o')
  | .lf j x, k, m, o, o', h => by
    rw [tset_lf, tget_lf] at h
    cases hm : Nat.beq j m with
    | false => rw [hm, bB_f] at h; cases h
    | true =>
      rw [hm, bB_t] at h
      have e1 := Nat.eq_of_beq_eq_true hm
      cases hk : Nat.beq j k with
      | true =>
        rw [hk, bB_t] at h
        cases h
        exact .inl ⟨e1.symm.trans (Nat.eq_of_beq_eq_true hk), rfl⟩
      | false =>
        rw [hk, bB_f] at h
        exact .inr ⟨fun e => (by rw [← e, hm] at hk; cases hk), by rw [tget_lf, hm, bB_t]; exact h⟩
  | .nd c l r, k, m, o, o', h => by
    rw [tset_nd] at h
    cases hk : Nat.ble c k with
    | true =>
      rw [hk, bB_t, tget_nd] at h
      cases hm : Nat.ble c m with
      | true =>
        rw [hm, bB_t] at h
        rcases tget_set r _ _ o o' h with ⟨a, b⟩ | ⟨a, b⟩
        · exact .inl ⟨a, b⟩
        · exact .inr ⟨a, by rw [tget_nd, hm, bB_t]; exact b⟩
      | false =>
        rw [hm, bB_f] at h
        exact .inr ⟨fun e => by subst e; exact Bool.false_ne_true (hm.symm.trans hk), by rw [tget_nd, hm, bB_f]; exact h⟩
    | false =>
      rw [hk, bB_f, tget_nd] at h
      cases hm : Nat.ble c m with
      | false =>
        rw [hm, bB_f] at h
        rcases tget_set l _ _ o o' h with ⟨a, b⟩ | ⟨a, b⟩
        · exact .inl ⟨a, b⟩
        · exact .inr ⟨a, by rw [tget_nd, hm, bB_f]; exact b⟩
      | true =>
        rw [hm, bB_t] at h
        exact .inr ⟨fun e => by subst e; exact Bool.false_ne_true (hk.symm.trans hm), by rw [tget_nd, hm, bB_t]; exact h⟩

/-! the heap -/
def hget (H : Hp) (k : Nat) : Option O := tget H.t k
def hpush (H : Hp) (o : O) : Hp := ⟨tset H.t H.n o, Nat.add H.n 1⟩
def hset (H : Hp) (k : Nat) (o : O) : Hp := ⟨tset H.t k o, H.n⟩
structure Rp (H : Hp) (L : List O) : Prop where
  n : H.n = L.length
  g : ∀ k o, hget H k = some o → L[k]? = some o
theorem Rp.push {H : Hp} {L : List O} (R : Rp H L) (o : O) : Rp (hpush H o) (L ++ [o]) := by
  refine ⟨by show Nat.add H.n 1 = _; rw [R.n]; simp, fun k o' h => ?_⟩
  rcases tget_set _ _ _ _ _ h with ⟨a, b⟩ | ⟨a, b⟩
  · subst a b; rw [R.n]; simp
  · have := R.g k o' b
    rw [List.getElem?_append_left]
    · exact this
    · exact (List.getElem?_eq_some_iff.mp this).1
theorem Rp.set {H : Hp} {L : List O} (R : Rp H L) {k : Nat} (o : O) (hk : k < L.length) : Rp (hset H k o) (L.set k o) := by
  refine ⟨by show H.n = _; rw [R.n]; simp, fun m o' h => ?_⟩
  rcases tget_set _ _ _ _ _ h with ⟨a, b⟩ | ⟨a, b⟩
  · subst a b; simp [hk]
  · rw [List.getElem?_set_ne (Ne.symm a)]; exact R.g m o' b
theorem Rp.lt {H : Hp} {L : List O} (R : Rp H L) {k : Nat} {o : O} (h : hget H k = some o) : k < L.length := (List.getElem?_eq_some_iff.mp (R.g k o h)).1

def getG (H : Hp) (n : Nat) : Option (List V) := oB (hget H n) none fun o => @O.rec (fun _ => Option (List V)) (fun xs => some xs) (fun _ => none) (fun _ => none) o
theorem getG_o {H : Hp} {n : Nat} {xs : List V} (h : getG H n = some xs) : hget H n = some (.list xs) := by
  obtain ⟨o, h1, h⟩ := oB_ne h nofun
  cases o with
  | list ys => cases h; exact h1
  | tup _ => cases h
  | cell _ => cases h
theorem Rp.get {H : Hp} {L : List O} (R : Rp H L) {n : Nat} {xs : List V} (h : getG H n = some xs) : getL L n = some xs := by
  unfold getL; rw [R.g _ _ (getG_o h)]
theorem Rp.lt' {H : Hp} {L : List O} (R : Rp H L) {k : Nat} {xs : List V} (h : getG H k = some xs) : k < L.length := R.lt (getG_o h)
def cellG (H : Hp) (n : Nat) : Option (Option V) := oB (hget H n) none fun o => @O.rec (fun _ => Option (Option V)) (fun _ => none) (fun _ => none) (fun v => some v) o
theorem cellG_o {H : Hp} {n : Nat} {c : Option V} (h : cellG H n = some c) : hget H n = some (.cell c) := by
  obtain ⟨o, h1, h⟩ := oB_ne h nofun
  cases o with
  | list ys => cases h
  | tup _ => cases h
  | cell _ => cases h; exact h1
def seqG (H : Hp) (n : Nat) : Option (List V) := oB (hget H n) none fun o => @O.rec (fun _ => Option (List V)) (fun xs => some xs) (fun xs => some xs) (fun _ => none) o
theorem Rp.seq {H : Hp} {L : List O} (R : Rp H L) {n : Nat} {xs : List V} (h : seqG H n = some xs) : seqOf L (.ref n) = some xs := by
  obtain ⟨o, h1, h⟩ := oB_ne h nofun
  unfold seqOf
  simp only [R.g _ _ h1]
  cases o with
  | list ys => exact h
  | tup _ => exact h
  | cell _ => cases h

/-! numbers -/
def ieq (a b : Int) : Bool := @Int.rec (fun _ => Bool) (fun m => @Int.rec (fun _ => Bool) (fun n => Nat.beq m n) (fun _ => false) b) (fun m => @Int.rec (fun _ => Bool) (fun _ => false) (fun n => Nat.beq m n) b) a
theorem nbeq (m n : Nat) : Nat.beq m n = decide (m = n) := by
  cases h : Nat.beq m n with
  | true => exact (decide_eq_true (Nat.eq_of_beq_eq_true h)).symm
  | false => exact (decide_eq_false (Nat.ne_of_beq_eq_false h)).symm
theorem ieq_eq (a b : Int) : ieq a b = decide (a = b) := by
  cases a <;> cases b
  · show Nat.beq _ _ = _; rw [nbeq]; simp; omega
  · show false = _; symm; simp
  · show false = _; symm; simp
  · show Nat.beq _ _ = _; rw [nbeq]; simp
def ile (a b : Int) : Bool := @Int.rec (fun _ => Bool) (fun m => @Int.rec (fun _ => Bool) (fun n => Nat.ble m n) (fun n => decide (Int.ofNat m ≤ Int.negSucc n)) b) (fun m => decide (Int.negSucc m ≤ b)) a
theorem nble (m n : Nat) : Nat.ble m n = decide (m ≤ n) := by
  cases h : Nat.ble m n with
  | true => exact (decide_eq_true (Nat.le_of_ble_eq_true h)).symm
  | false => exact (decide_eq_false (fun e => Bool.false_ne_true (h.symm.trans (Nat.ble_eq_true_of_le e)))).symm
theorem ile_eq (a b : Int) : ile a b = decide (a ≤ b) := by
  cases a <;> cases b
  · show Nat.ble _ _ = _; rw [nble]; simp
  · rfl
  · rfl
  · rfl
def ilt (a b : Int) : Bool := @Int.rec (fun _ => Bool) (fun m => @Int.rec (fun _ => Bool) (fun n => Nat.ble (Nat.add m 1) n) (fun n => decide (Int.ofNat m < Int.negSucc n)) b) (fun m => decide (Int.negSucc m < b)) a
theorem ilt_eq (a b : Int) : ilt a b = decide (a < b) := by
  cases a <;> cases b
  · show Nat.ble (_ + 1) _ = _; rw [nble]; simp [Int.ofNat_lt, Nat.succ_le_iff]
  · rfl
  · rfl
  · rfl
def iadd (a b : Int) : Int := @Int.rec (fun _ => Int) (fun m => @Int.rec (fun _ => Int) (fun n => Int.ofNat (Nat.add m n)) (fun n => Int.add (Int.ofNat m) (Int.negSucc n)) b) (fun m => Int.add (Int.negSucc m) b) a
theorem iadd_eq (a b : Int) : iadd a b = a + b := by cases a <;> cases b <;> rfl
def isub (a b : Int) : Int := @Int.rec (fun _ => Int) (fun m => @Int.rec (fun _ => Int) (fun n => bB (Nat.ble n m) (Int.sub (Int.ofNat m) (Int.ofNat n)) (Int.ofNat (Nat.sub m n))) (fun n => Int.sub (Int.ofNat m) (Int.negSucc n)) b) (fun m => Int.sub (Int.negSucc m) b) a
theorem isub_eq (a b : Int) : isub a b = a - b := by
  cases a with
  | negSucc m => rfl
  | ofNat m => cases b with
    | negSucc n => rfl
    | ofNat n =>
      show bB (Nat.ble n m) (Int.sub (Int.ofNat m) (Int.ofNat n)) (Int.ofNat (Nat.sub m n)) = _
      cases h : Nat.ble n m with
      | false => rfl
      | true =>
        rw [bB_t]
        exact Int.ofNat_sub (Nat.le_of_ble_eq_true h)
def imul (a b : Int) : Int := @Int.rec (fun _ => Int) (fun m => @Int.rec (fun _ => Int) (fun n => Int.ofNat (Nat.mul m n)) (fun n => Int.mul (Int.ofNat m) (Int.negSucc n)) b) (fun m => Int.mul (Int.negSucc m) b) a
theorem imul_eq (a b : Int) : imul a b = a * b := by cases a <;> cases b <;> rfl
def nseq (xs : List Nat) : List Nat → Bool := @List.rec Nat (fun _ => List Nat → Bool) (fun ys => @List.rec Nat (fun _ => Bool) true (fun _ _ _ => false) ys) (fun x _ ih ys => @List.rec Nat (fun _ => Bool) false (fun y t _ => bB (Nat.beq x y) false (ih t)) ys) xs
theorem nseq_eq : ∀ xs ys : List Nat, nseq xs ys = decide (xs = ys)
  | [], [] => rfl
  | [], _ :: _ => rfl
  | _ :: _, [] => rfl
  | x :: xs, y :: ys => by
    show bB (Nat.beq x y) false (nseq xs ys) = _
    rw [nseq_eq xs ys, nbeq]
    by_cases h : x = y
    · subst h; simp [bB]
    · simp [h, bB]
def streq (a b : Str) : Bool := nseq a.cps.toList b.cps.toList
theorem streq_eq (a b : Str) : streq a b = decide (a = b) := by
  unfold streq
  rw [nseq_eq]
  have : (a.cps.toList = b.cps.toList) ↔ a = b := ⟨fun h => by cases a; cases b; simp at h; rw [h], fun h => by rw [h]⟩
  simp [this]
end
end Mine
end
section
open PySem
namespace Mine
set_option maxRecDepth 100000
set_option autoImplicit false
set_option linter.unusedVariables false
noncomputable section

/-! one-step looks -/
def vInt {γ : Type} (v : V) (e : γ) (f : Int → γ) : γ := @V.rec (fun _ => γ) e (fun _ => e) f (fun _ => e) (fun _ => e) (fun _ _ _ => e) (fun _ _ => e) (fun _ => e) (fun _ _ => e) e v
def vRef {γ : Type} (v : V) (e : γ) (f : Nat → γ) : γ := @V.rec (fun _ => γ) e (fun _ => e) (fun _ => e) (fun _ => e) f (fun _ _ _ => e) (fun _ _ => e) (fun _ => e) (fun _ _ => e) e v
def iNat {γ : Type} (i : Int) (e : γ) (f : Nat → γ) : γ := @Int.rec (fun _ => γ) f (fun _ => e) i
def sLoc {γ : Type} (s : Sl) (e : γ) (f : V → γ) : γ := @Sl.rec (fun _ => γ) (fun w => @Option.rec V (fun _ => γ) e f w) (fun _ => e) e s
def sAny {γ : Type} (s : Sl) (e f : γ) : γ := @Sl.rec (fun _ => γ) (fun _ => f) (fun _ => e) e s
def sCel {γ : Type} (s : Sl) (e : γ) (f : Nat → γ) : γ := @Sl.rec (fun _ => γ) (fun _ => e) f e s
theorem vInt_ne {γ : Type} {v : V} {e t : γ} {f : Int → γ} (h : vInt v e f = t) (hne : e ≠ t) : ∃ i, v = .int i ∧ f i = t := by
  cases v with
  | int i => exact ⟨i, rfl, h⟩
  | _ => exact absurd h hne
theorem vRef_ne {γ : Type} {v : V} {e t : γ} {f : Nat → γ} (h : vRef v e f = t) (hne : e ≠ t) : ∃ i, v = .ref i ∧ f i = t := by
  cases v with
  | ref i => exact ⟨i, rfl, h⟩
  | _ => exact absurd h hne
theorem iNat_ne {γ : Type} {v : Int} {e t : γ} {f : Nat → γ} (h : iNat v e f = t) (hne : e ≠ t) : ∃ i, v = .ofNat i ∧ f i = t := by
  cases v with
  | ofNat i => exact ⟨i, rfl, h⟩
  | _ => exact absurd h hne
theorem sLoc_ne {γ : Type} {v : Sl} {e t : γ} {f : V → γ} (h : sLoc v e f = t) (hne : e ≠ t) : ∃ i, v = .loc (some i) ∧ f i = t := by
  cases v with
  | loc w => cases w with
    | some i => exact ⟨i, rfl, h⟩
    | none => exact absurd h hne
  | _ => exact absurd h hne
theorem sAny_ne {γ : Type} {v : Sl} {e f t : γ} (h : sAny v e f = t) (hne : e ≠ t) : ∃ i, v = .loc i ∧ f = t := by
  cases v with
  | loc w => exact ⟨w, rfl, h⟩
  | _ => exact absurd h hne
theorem sCel_ne {γ : Type} {v : Sl} {e t : γ} {f : Nat → γ} (h : sCel v e f = t) (hne : e ≠ t) : ∃ i, v = .cel i ∧ f i = t := by
  cases v with
  | cel i => exact ⟨i, rfl, h⟩
  | _ => exact absurd h hne

/-! operations -/
def newL (H : Hp) (xs : List V) : Rg V := .ok (.ref H.n) (hpush H (.list xs))
def addG (v u : V) (H : Hp) : Rg V := match v with
  | .int x => vInt u .er fun y => .ok (.int (iadd x y)) H
  | .lin a j b0 => vInt u .er fun y => .ok (.lin a j (b0 + y)) H
  | .ref m => vRef u .er fun n => oB (getG H m) .er fun xs => oB (getG H n) .er fun ys => bB (Nat.ble (Nat.add (llen xs) (llen ys)) 1000) .er (newL H (lapp xs ys))
  | _ => .er
def subOG (v u : V) (H : Hp) : Rg V := vInt v .er fun x => vInt u .er fun y => .ok (.int (isub x y)) H
def mulG (v u : V) (H : Hp) : Rg V := match v with
  | .int x => match u with
    | .int y => bB (ile 0 x) .er (bB (ile x 64) .er (.ok (.int (imul x y)) H))
    | .lin a j b0 => bB (ile 0 x) .er (bB (ile x 64) .er (bB (ieq b0 0) .er (.ok (.lin (x * a) j 0) H)))
    | .inv d => iNat x .er fun n => bB (Nat.ble n 8) .er (.ok (.mul n d) H)
    | .ref m => iNat x .er fun k => oB (getG H m) .er fun xs => bB (Nat.ble k 16) .er (bB (Nat.ble (llen xs) 16) .er (newL H (rep xs k)))
    | _ => .er
  | .ref m => vInt u .er fun y => iNat y .er fun k => oB (getG H m) .er fun xs => bB (Nat.ble k 16) .er (bB (Nat.ble (llen xs) 16) .er (newL H (rep xs k)))
  | _ => .er
def divG (v u : V) (H : Hp) : Rg V := vInt v .er fun x => vInt u .er fun y => iNat y .er fun d => bB (ieq x 1) .er (bB (Nat.ble 1 d) .er (bB (Nat.ble d 8) .er (.ok (.inv d) H)))
def othG (K : Orc) (op : Op) (v u : V) (H : Hp) : Rg V := oB (bop2 K [] op v u) .er fun p => .ok p.1 H
def bopG (K : Orc) (op : Op) : V → V → Hp → Rg V := @Op.rec (fun _ => V → V → Hp → Rg V) addG subOG mulG divG (othG K .fdiv) (othG K .mod) (othG K .pow) op

structure Eq2 where
  v : Hp → V → V → Option Bool
  l : Hp → List V → List V → Option Bool
def eqRef (q : Eq2) (H : Hp) (m n : Nat) : Option Bool := bB (Nat.beq m n) (oB (hget H m) none fun o => match o with
  | .list xs => oB (getG H n) none fun ys => bB (Nat.beq (llen xs) (llen ys)) (some false) (q.l H xs ys)
  | .tup xs => oB (hget H n) none fun o2 => match o2 with
    | .tup ys => bB (Nat.beq (llen xs) (llen ys)) none (q.l H xs ys)
    | _ => none
  | .cell _ => none) (some true)
def eqN (b : V) : Option Bool := match b with
  | .none => some true
  | _ => none
def eqB (x : Bool) (b : V) : Option Bool := match b with
  | .bool y => some (decide (x = y))
  | _ => none
def eqI (x : Int) (b : V) : Option Bool := @V.rec (fun _ => Option Bool) none (fun _ => none) (fun y => some (ieq x y)) (fun _ => some false) (fun _ => none) (fun _ _ _ => none) (fun _ _ => none) (fun _ => none) (fun _ _ => none) none b
def eqS (x : Str) (b : V) : Option Bool := @V.rec (fun _ => Option Bool) none (fun _ => none) (fun _ => some false) (fun y => some (streq x y)) (fun _ => none) (fun _ _ _ => none) (fun _ _ => none) (fun _ => none) (fun _ _ => none) none b
def eqU (a1 : Int) (j1 : Nat) (b1 : Int) (b : V) : Option Bool := match b with
  | .lin a2 j2 b2 => bB (ieq a1 a2) none (bB (Nat.beq j1 j2) none (bB (ieq b1 b2) none (some true)))
  | _ => none
def eqM (n1 d1 : Nat) (b : V) : Option Bool := match b with
  | .mul n2 d2 => bB (Nat.beq n1 n2) none (bB (Nat.beq d1 d2) none (some true))
  | _ => none
def eqR (q : Eq2) (H : Hp) (m : Nat) (b : V) : Option Bool := vRef b none fun n => eqRef q H m n
def eqVs (q : Eq2) (H : Hp) (a b : V) : Option Bool := @V.rec (fun _ => V → Option Bool) eqN eqB eqI eqS (eqR q H) eqU (fun _ _ _ => none) (fun _ _ => none) eqM (fun _ => none) a b
def eqLs (q : Eq2) (H : Hp) (xs ys : List V) : Option Bool := match xs with
  | [] => match ys with
    | [] => some true
    | _ => none
  | x :: xt => match ys with
    | [] => none
    | y :: yt => oB (q.v H x y) none fun a => oB (q.l H xt yt) none fun b => some (bB a false b)
def eqG : Nat → Eq2 := @Nat.rec (fun _ => Eq2) ⟨fun _ _ _ => none, fun _ _ _ => none⟩ (fun _ q => ⟨eqVs q, eqLs q⟩)

def notB (b : Bool) : Bool := bB b true false
def cmpI (f : Int → Int → Bool) (v u : V) (_ : Hp) : Option Bool := vInt v none fun x => vInt u none fun y => some (f x y)
def sameG (v u : V) : Bool := vRef v false fun m => vRef u false fun n => Nat.beq m n
def cmpE (v u : V) (H : Hp) : Option Bool := bB (sameG v u) (eqVs (eqG 39) H v u) none
def cmpN (v u : V) (H : Hp) : Option Bool := bB (sameG v u) (oB (eqVs (eqG 39) H v u) none fun r => some (notB r)) none
def cmpG (c : Cm) : V → V → Hp → Option Bool := @Cm.rec (fun _ => V → V → Hp → Option Bool) cmpE cmpN (cmpI ilt) (cmpI ile) (cmpI fun x y => ilt y x) (cmpI fun x y => ile y x) c

def truG (H : Hp) (v : V) : Option Bool := @V.rec (fun _ => Option Bool) none (fun b => some b) (fun _ => none) (fun _ => none) (fun n => oB (getG H n) none fun xs => bB (lsm xs) none (some (notB xs.isEmpty))) (fun _ _ _ => none) (fun _ _ => none) (fun _ => none) (fun _ _ => none) none v
def isiG (H : Hp) (T : String) (v : V) : Option Bool := match v with
  | .ref n => oB (hget H n) none fun o => match o with
    | .list _ => isiV [.list []] T (.ref 0)
    | .tup _ => isiV [.tup []] T (.ref 0)
    | .cell _ => none
  | _ => isiV [] T v

/-! slots -/
def DTg : Type := Fm → Hp → V → Rg Fm
def tlS (xs : List Sl) : List Sl := @List.rec Sl (fun _ => List Sl) [] (fun _ t _ => t) xs
def setK {γ : Type} (v : V) (e : γ) : Nat → List Sl → (List Sl → γ) → γ := @Nat.rec (fun _ => List Sl → (List Sl → γ) → γ)
  (fun xs k => @List.rec Sl (fun _ => γ) e (fun s t _ => @Sl.rec (fun _ => γ) (fun _ => k (.loc (some v) :: t)) (fun _ => e) e s) xs)
  (fun _ ih xs k => @List.rec Sl (fun _ => γ) e (fun s t _ => ih t fun t' => k (s :: t')) xs)
def hdX (H : Hp) (xs : List Sl) : Rg V := @List.rec Sl (fun _ => Rg V) .er (fun s _ _ => @Sl.rec (fun _ => Rg V) (fun w => @Option.rec V (fun _ => Rg V) .er (fun v => .ok v H) w) (fun _ => .er) .er s) xs
def hdC {γ : Type} (xs : List Sl) (e : γ) (f : Nat → γ) : γ := @List.rec Sl (fun _ => γ) e (fun s _ _ => @Sl.rec (fun _ => γ) (fun _ => e) f e s) xs
def celX (H : Hp) (n : Nat) : Rg V := oB (cellG H n) .er fun w => oB w .er fun v => .ok v H
def celT (fm : Fm) (H : Hp) (v : V) (n : Nat) : Rg Fm := oB (cellG H n) .er fun _ => bB (Nat.ble fm.fz n) .er (.ok fm (hset H n (.cell (some v))))
def putsG (ts : List DTg) : Fm → Hp → List V → Rg Fm := @List.rec DTg (fun _ => Fm → Hp → List V → Rg Fm)
  (fun fm H vs => match vs with
    | [] => .ok fm H
    | _ => .er)
  (fun t _ ih fm H vs => match vs with
    | v :: r => gB (t fm H v) .er fun fm1 H1 => ih fm1 H1 r
    | [] => .er) ts
def DP : Type := Fm → Hp → V → Option V → Rg Fm
def DP.one (t : DTg) : DP := fun fm H v u => @Option.rec V (fun _ => Rg Fm) (t fm H v) (fun _ => .er) u
def DP.two (t1 t2 : DTg) : DP := fun fm H v u => @Option.rec V (fun _ => Rg Fm) .er (fun w => gB (t1 fm H v) .er fun fm1 H1 => t2 fm1 H1 w) u
def nextG (H : Hp) (it : It) : Nx := @It.rec (fun _ => Nx)
  (fun a n => @Nat.rec (fun _ => Nx) .fin (fun m _ => .one (.int a) (.rng (iadd a 1) m)) n)
  (fun n i => oB (getG H n) .er fun xs => @Option.rec V (fun _ => Nx) .fin (fun v => .one v (.lst n (Nat.add i 1))) (lget xs i))
  (fun n i => oB (getG H n) .er fun xs => @Option.rec V (fun _ => Nx) .fin (fun v => .two (.int (Int.ofNat i)) v (.enm n (Nat.add i 1))) (lget xs i)) it
structure SH where
  s : List Sl
  H : Hp
def mkFG (vs : List V) (ps : List PS) : Hp → SH := @List.rec PS (fun _ => Hp → SH) (fun H => ⟨[], H⟩)
  (fun p _ ih H => @PS.rec (fun _ => SH) (fun k => @SH.rec (fun _ => SH) (fun s H' => ⟨.loc (lget vs k) :: s, H'⟩) (ih H))
    (fun k => @SH.rec (fun _ => SH) (fun s H' => ⟨.cel H.n :: s, H'⟩) (ih (hpush H (.cell (lget vs k)))))
    (@SH.rec (fun _ => SH) (fun s H' => ⟨.loc none :: s, H'⟩) (ih H))
    (@SH.rec (fun _ => SH) (fun s H' => ⟨.cel H.n :: s, H'⟩) (ih (hpush H (.cell none))))
    (@SH.rec (fun _ => SH) (fun s H' => ⟨.oth :: s, H'⟩) (ih H)) p) ps
def mkCG (fm : Fm) (cs : List CS) : Option (List Sl) := @List.rec CS (fun _ => Option (List Sl)) (some [])
  (fun c _ ih => oB ih none fun l => @CS.rec (fun _ => Option (List Sl)) (some (.loc none :: l)) (fun i => oB (lget fm.sl i) none fun s => sCel s none fun n => some (.cel n :: l)) (some (.oth :: l)) c) cs
def idxG (n : Nat) (i : Int) : Option Nat := @Int.rec (fun _ => Option Nat) (fun k => bB (Nat.blt k 1000) none (bB (Nat.blt k n) none (some k)))
  (fun m => bB (Nat.beq m 0) none (bB (Nat.blt 0 n) none (bB (Nat.ble n 1000) none (some (Nat.sub n 1))))) i
def popG (fm : Fm) (v : V) (H : Hp) (first : Bool) : Rg V := vRef v .er fun n => oB (getG H n) .er fun xs => bB (Nat.ble fm.fz n) .er (bB (lsm xs) .er (bB first
    (match xs with
      | [] => .er
      | x :: ys => .ok ((x :: ys).getLast (List.cons_ne_nil _ _)) (hset H n (.list (x :: ys).dropLast)))
    (match xs with
      | [] => .er
      | x :: ys => .ok x (hset H n (.list ys)))))
def subL (H : Hp) (n : Nat) (u : V) : Option V := vInt u none fun i => oB (seqG H n) none fun xs => @Int.rec (fun _ => Option V) (fun k => bB (Nat.blt k 1000) none (lget xs k)) (fun m => oB (idxG (llen xs) (Int.negSucc m)) none fun j => lget xs j) i
def subT (s : Str) (u : V) : Option V := vInt u none fun i => oB (idxG (llen s.cps.toList) i) none fun j => oB (lget s.cps.toList j) none fun c => some (.str ⟨⟨[c]⟩⟩)
def subG (H : Hp) (v u : V) : Option V := @V.rec (fun _ => Option V) none (fun _ => none) (fun _ => none) (fun s => subT s u) (fun n => subL H n u) (fun _ _ _ => none) (fun _ _ => none) (fun _ => none) (fun _ _ => none) none v
def pairG (H : Hp) (v : V) : Option (Int × Int) := vRef v none fun n => oB (getG H n) none fun xs => match xs with
    | [.int a, .int b] => some (a, b)
    | _ => none
def pairsG (H : Hp) (vs : List V) : Option (List (Int × Int)) := @List.rec V (fun _ => Option (List (Int × Int))) (some []) (fun v _ ih => oB (pairG H v) none fun p => oB ih none fun l => some (p :: l)) vs
def stoG (fm : Fm) (H : Hp) (o i v : V) : Option Hp := vRef o none fun n => vInt i none fun i => oB (getG H n) none fun xs => bB (Nat.ble fm.fz n) none (oB (idxG (llen xs) i) none fun j => some (hset H n (.list (lset xs j v))))
def seqVG (H : Hp) (v : V) : Option (List V) := vRef v none fun n => seqG H n

/-! code as functions -/
structure OrcW where
  K : Orc
def DX : Type := Fm → Hp → Rg V
def DT : Type := Fm → Hp → Rg Bool
def DI : Type := Fm → Hp → Rg It
def DS : Type := Fm → Hp → Rs
structure DF where
  ar : Nat
  sl : List PS
  dfl : List V
  body : List DS

def evLG (l : List DX) (fm : Fm) : Hp → Rg (List V) := @List.rec DX (fun _ => Hp → Rg (List V)) (fun H => .ok [] H)
  (fun d _ ih H => gB (d fm H) .er fun v H1 => gB (ih H1) .er fun vs H2 => .ok (v :: vs) H2) l
def stLG (l : List DS) : Fm → Hp → Rs := @List.rec DS (fun _ => Fm → Hp → Rs) (fun fm H => .nx fm H)
  (fun d _ ih fm H => sB (d fm H) ih) l
def allG (isAnd : Bool) (l : List DT) (fm : Fm) : Hp → Rg Bool := @List.rec DT (fun _ => Hp → Rg Bool) (fun H => .ok isAnd H)
  (fun d _ ih H => gB (d fm H) .er fun b H1 => bB isAnd (bB b (ih H1) (.ok true H1)) (bB b (.ok false H1) (ih H1))) l
def boolG (isAnd : Bool) (l : List DX) (fm : Fm) : Hp → Rg V := @List.rec DX (fun _ => Hp → Rg V) (fun _ => .er)
  (fun d t ih H => match t with
    | [] => d fm H
    | _ :: _ => gB (d fm H) .er fun v H1 => oB (truG H1 v) .er fun b => bB isAnd (bB b (ih H1) (.ok v H1)) (bB b (.ok v H1) (ih H1))) l

def DX.cst (c : V) : DX := fun fm H => .ok c H
def DX.bin [k : Inhabited OrcW] (op : Op) (a b : DX) : DX := fun fm H => gB (a fm H) .er fun v H1 => gB (b fm H1) .er fun u H2 => bopG k.default.K op v u H2
def DX.cmp (op : Cm) (a b : DX) : DX := fun fm H => gB (a fm H) .er fun v H1 => gB (b fm H1) .er fun u H2 => oB (cmpG op v u H2) .er fun c => .ok (.bool c) H2
def DX.neg (a : DX) : DX := fun fm H => gB (a fm H) .er fun v H1 => vInt v .er fun i => .ok (.int (-i)) H1
def DX.bop (isAnd : Bool) (l : List DX) : DX := fun fm H => boolG isAnd l fm H
def DX.ite (t : DT) (a b : DX) : DX := fun fm H => gB (t fm H) .er fun c H1 => bB c (b fm H1) (a fm H1)
def DX.sub (a i : DX) : DX := fun fm H => gB (a fm H) .er fun v H1 => gB (i fm H1) .er fun u H2 => oB (subG H2 v u) .er fun y => .ok y H2
def DX.cut (a : DX) : DX := fun fm H => gB (a fm H) .er fun v H1 => match v with
  | .str s => bB (Nat.ble s.cps.size 16) .er (.ok (.str s) H1)
  | .ref n => oB (getG H1 n) .er fun xs => bB (lsm xs) .er (newL H1 xs)
  | _ => .er
def DX.lst (l : List DX) : DX := fun fm H => gB (evLG l fm H) .er fun vs H1 => bB (lsm vs) .er (newL H1 vs)
def DX.tup (l : List DX) : DX := fun fm H => gB (evLG l fm H) .er fun vs H1 => bB (lsm vs) .er (.ok (.ref H1.n) (hpush H1 (.tup vs)))
def DX.len (a : DX) : DX := fun fm H => gB (a fm H) .er fun v H1 => match v with
  | .ref n => oB (getG H1 n) .er fun xs => bB (lsm xs) .er (.ok (.int (Int.ofNat (llen xs))) H1)
  | .str s => bB (lsm s.cps.toList) .er (.ok (.int (Int.ofNat (llen s.cps.toList))) H1)
  | _ => .er
def DX.isi (T : String) (a : DX) : DX := fun fm H => gB (a fm H) .er fun v H1 => oB (isiG H1 T v) .er fun b => .ok (.bool b) H1
def DX.cpy (a : DX) : DX := fun fm H => gB (a fm H) .er fun v H1 => match v with
  | .ref n => oB (getG H1 n) .er fun xs => bB (lsm xs) .er (newL H1 xs)
  | .str s => bB (lsm s.cps.toList) .er (newL H1 (s.cps.toList.map fun c => .str ⟨⟨[c]⟩⟩))
  | _ => .er
def DX.join (a : DX) : DX := fun fm H => gB (a fm H) .er fun v H1 => vRef v .er fun n => oB (getG H1 n) .er fun xs => oB (strsOf xs) .er fun ts => bB (JoinOk ⟨#[]⟩ ts) .er (.ok (.str (Txt.join ⟨#[]⟩ ts)) H1)
def DX.pop0 (a : DX) : DX := fun fm H => gB (a fm H) .er fun v H1 => popG fm v H1 true
def DX.pop (a : DX) : DX := fun fm H => gB (a fm H) .er fun v H1 => popG fm v H1 false
def DX.app (o a : DX) : DX := fun fm H => gB (o fm H) .er fun v H1 => vRef v .er fun n => oB (getG H1 n) .er fun _ => gB (a fm H1) .er fun y H2 => oB (getG H2 n) .er fun xs => bB (Nat.ble fm.fz n) .er (bB (lsm xs) .er (.ok .none (hset H2 n (.list (lapp xs [y])))))
def DX.ext (o a : DX) : DX := fun fm H => gB (o fm H) .er fun v H1 => vRef v .er fun n => oB (getG H1 n) .er fun _ => gB (a fm H1) .er fun y H2 => vRef y .er fun m =>
  oB (getG H2 n) .er fun xs => oB (getG H2 m) .er fun ys => bB (Nat.ble fm.fz n) .er (bB (Nat.ble (Nat.add (llen xs) (llen ys)) 1000) .er (.ok .none (hset H2 n (.list (lapp xs ys)))))
def DX.rev (o : DX) : DX := fun fm H => gB (o fm H) .er fun v H1 => vRef v .er fun n => oB (getG H1 n) .er fun xs => bB (Nat.ble fm.fz n) .er (bB (lsm xs) .er (.ok .none (hset H1 n (.list (lrev xs)))))
def DX.srt (o : DX) : DX := fun fm H => gB (o fm H) .er fun v H1 => vRef v .er fun n => oB (getG H1 n) .er fun xs => oB (pairsG H1 xs) .er fun ps => bB (Nat.ble fm.fz n) .er (bB (Nat.ble 2 (llen xs)) .er (bB (Nat.blt (llen xs) 64) .er
      (oB (kasRun xs.length (fun i j => ltPair (ps.getD i (0, 0)) (ps.getD j (0, 0))) (PySem.W.kas_sort xs.length)) .er fun p => .ok .none (hset H1 n (.list (p.toList.map fun i => xs.getD i .none))))))

def itG (v : V) (H : Hp) : Rg It := vRef v .er fun n => oB (getG H n) .er fun _ => .ok (.lst n 0) H
def itE (v : V) (H : Hp) : Rg It := vRef v .er fun n => oB (getG H n) .er fun _ => .ok (.enm n 0) H
def rng1 (v : V) (H : Hp) : Rg It := vInt v .er fun x => iNat x .er fun n => bB (Nat.ble n 64) .er (.ok (.rng 0 n) H)
def rng2 (v u : V) (H : Hp) : Rg It := vInt v .er fun x => iNat x .er fun m => vInt u .er fun y => iNat y .er fun n => bB (Nat.ble m n) .er (bB (Nat.ble n 64) .er (.ok (.rng (.ofNat m) (Nat.sub n m)) H))
def DI.rng (l : List DX) : DI := fun fm H => match l with
    | [a] => gB (a fm H) .er rng1
    | [a, b] => gB (a fm H) .er fun v H1 => gB (b fm H1) .er fun u H2 => rng2 v u H2
    | _ => .er
def DI.enu (a : DX) : DI := fun fm H => gB (a fm H) .er itE
def iloc (d : DX) : DI := fun fm H => gB (d fm H) .er itG
def DI.dead : DI := fun _ _ => .er

def nxB {γ : Type} (x : Nx) (e f : γ) (g1 : V → It → γ) (g2 : V → V → It → γ) : γ := @Nx.rec (fun _ => γ) e f g1 g2 x
def forG (p : DP) (body : Fm → Hp → Rs) : Nat → It → Fm → Hp → Rs := @Nat.rec (fun _ => It → Fm → Hp → Rs) (fun _ _ _ => .er)
  (fun _ ih it fm H => nxB (nextG H it) .er (.nx fm H) (fun v it' => gB (p fm H v none) .er fun fm1 H1 => sB (body fm1 H1) (ih it'))
    (fun v u it' => gB (p fm H v (some u)) .er fun fm1 H1 => sB (body fm1 H1) (ih it')))
def whlG (t : DT) (body : Fm → Hp → Rs) : Nat → Fm → Hp → Rs := @Nat.rec (fun _ => Fm → Hp → Rs) (fun _ _ => .er)
  (fun _ ih fm H => gB (t fm H) .er fun b H1 => bB b (.nx fm H1) (sB (body fm H1) ih))
def compS (ifs : Fm → Hp → Rg Bool) (elt : DX) (k : Fm → List V → Hp → Rg (List V)) (acc : List V) (fm1 : Fm) (H1 : Hp) : Rg (List V) :=
  gB (ifs fm1 H1) .er fun b H2 => bB b (k fm1 acc H2) (gB (elt fm1 H2) .er fun y H3 => k fm1 (y :: acc) H3)
def compG (p : DP) (ifs : Fm → Hp → Rg Bool) (elt : DX) : Nat → It → Fm → List V → Hp → Rg (List V) := @Nat.rec (fun _ => It → Fm → List V → Hp → Rg (List V)) (fun _ _ _ _ => .er)
  (fun _ ih it fm acc H => nxB (nextG H it) .er (.ok (lrev acc) H)
    (fun v it' => gB (p fm H v none) .er fun fm1 H1 => compS ifs elt (ih it') acc fm1 H1)
    (fun v u it' => gB (p fm H v (some u)) .er fun fm1 H1 => compS ifs elt (ih it') acc fm1 H1))
def DX.comp (elt : DX) (p : DP) (it : DI) (ifs : List DT) (sl : List CS) : DX := fun fm H => gB (it fm H) .er fun I H1 => oB (mkCG fm sl) .er fun s =>
  gB (compG p (allG true ifs) elt 70 I ⟨s, H1.n⟩ [] H1) .er fun ys H2 => newL H2 ys
def sR (x : Rs) : Rg V := @Rs.rec (fun _ => Rg V) (fun _ _ => .er) (fun v _ H => .ok v H) .er x
def DX.call (fn : DF) (args : List DX) : DX := fun fm H => gB (evLG args fm H) .er fun vs H1 => bB (Nat.beq (Nat.add (llen vs) (llen fn.dfl)) fn.ar) .er
  (@SH.rec (fun _ => Rg V) (fun s H2 => sR (stLG fn.body ⟨s, H1.n⟩ H2)) (mkFG (lapp vs fn.dfl) fn.sl H1))
def DX.dead : DX := fun _ _ => .er

def plG (d : DX) : DT := fun fm H => gB (d fm H) .er fun v H1 => oB (truG H1 v) .er fun b => .ok b H1
def DT.inv (a : DT) : DT := fun fm H => gB (a fm H) .er fun b H1 => .ok (notB b) H1
def DT.cmp (op : Cm) (a b : DX) : DT := fun fm H => gB (a fm H) .er fun v H1 => gB (b fm H1) .er fun u H2 => oB (cmpG op v u H2) .er fun c => .ok c H2
def DT.bop (isAnd : Bool) (l : List DT) : DT := fun fm H => allG isAnd l fm H
def DT.isi (T : String) (a : DX) : DT := plG (DX.isi T a)

def fmS (x : Rg Fm) : Rs := gB x .er fun fm H => .nx fm H
def DS.asg (t : DTg) (x : DX) : DS := fun fm H => gB (x fm H) .er fun v H1 => fmS (t fm H1 v)
def DS.asgT (ts : List DTg) (x : DX) : DS := fun fm H => gB (x fm H) .er fun v H1 => oB (seqVG H1 v) .er fun vs => fmS (putsG ts fm H1 vs)
def DS.asgW (ts : List DTg) (x : DX) : DS := fun fm H => gB (x fm H) .er fun v H1 => oB (seqVG H1 v) .er fun vs => bB (Nat.beq (llen ts) (llen vs)) .er (fmS (putsG (lrev ts) fm H1 (lrev vs)))
def DS.sto (o i x : DX) : DS := fun fm H => gB (x fm H) .er fun v H1 => gB (o fm H1) .er fun ov H2 => gB (i fm H2) .er fun iv H3 => oB (stoG fm H3 ov iv v) .er fun H4 => .nx fm H4
def DS.aug (g : DX) (t : DTg) (x : DX) : DS := fun fm H => gB (g fm H) .er fun w _ => vInt w .er fun a => gB (x fm H) .er fun v H1 => vInt v .er fun b => fmS (t fm H1 (.int (iadd a b)))
def DS.augs (o i x : DX) : DS := fun fm H => gB (o fm H) .er fun ov H1 => gB (i fm H1) .er fun iv H2 => oB (subG H2 ov iv) .er fun w => vInt w .er fun a => gB (x fm H2) .er fun v H3 => vInt v .er fun b => oB (stoG fm H3 ov iv (.int (iadd a b))) .er fun H4 => .nx fm H4
def DS.exp (x : DX) : DS := fun fm H => gB (x fm H) .er fun _ H1 => .nx fm H1
def DS.ifs (t : DT) (a b : List DS) : DS := fun fm H => gB (t fm H) .er fun c H1 => bB c (stLG b fm H1) (stLG a fm H1)
def DS.whl (t : DT) (b : List DS) : DS := fun fm H => whlG t (stLG b) 70 fm H
def DS.fr (p : DP) (it : DI) (b : List DS) : DS := fun fm H => gB (it fm H) .er fun I H1 => forG p (stLG b) 70 I fm H1
def DS.ret (x : DX) : DS := fun fm H => gB (x fm H) .er fun v H1 => .rt v fm H1
def DS.rais : DS := fun _ _ => .er
def DS.dead : DS := fun _ _ => .er

def heap0 : List O → Hp → Hp := fun l => @List.rec O (fun _ => Hp → Hp) (fun H => H) (fun o _ ih H => ih (hpush H o)) l
def lawHG : Hp := heap0 lawH ⟨tnew 7 0, 0⟩
def goodG (x : Rs) : Bool := @Rs.rec (fun _ => Bool) (fun _ _ => false) (fun v _ _ => match v with
  | .bool b => b
  | _ => false) false x
def rowB (pre : List DS) (cs : List DT) (post : List DS) : Bool := @Rs.rec (fun _ => Bool) (fun fm1 H1 => gB (allG false cs fm1 H1) false fun b H2 => bB b (goodG (stLG post fm1 H2)) false) (fun _ _ _ => false) false (stLG pre ⟨lawSl, 0⟩ lawHG)
end
end Mine
end
section
open PySem
namespace Mine
set_option maxRecDepth 100000
set_option autoImplicit false
set_option linter.unusedVariables false
noncomputable section
def DX.loc0 : DX := fun fm H => hdX H fm.sl
def DT.loc0 : DT := plG DX.loc0
def DI.loc0 : DI := iloc DX.loc0
def DTg.loc0 : DTg := fun fm H v => @Fm.rec (fun _ => Rg Fm) (fun sl fz => @List.rec Sl (fun _ => Rg Fm) .er (fun s0 t0 _ => @Sl.rec (fun _ => Rg Fm) (fun _ => .ok ⟨.loc (some v) :: t0, fz⟩ H) (fun _ => .er) .er s0) sl) fm
def DX.cel0 : DX := fun fm H => hdC fm.sl .er (celX H)
def DTg.cel0 : DTg := fun fm H v => hdC fm.sl .er (celT fm H v)
def DX.loc1 : DX := fun fm H => hdX H (tlS fm.sl)
def DT.loc1 : DT := plG DX.loc1
def DI.loc1 : DI := iloc DX.loc1
def DTg.loc1 : DTg := fun fm H v => @Fm.rec (fun _ => Rg Fm) (fun sl fz => @List.rec Sl (fun _ => Rg Fm) .er (fun s0 t0 _ => @List.rec Sl (fun _ => Rg Fm) .er (fun s1 t1 _ => @Sl.rec (fun _ => Rg Fm) (fun _ => .ok ⟨s0 :: .loc (some v) :: t1, fz⟩ H) (fun _ => .er) .er s1) t0) sl) fm
def DX.cel1 : DX := fun fm H => hdC (tlS fm.sl) .er (celX H)
def DTg.cel1 : DTg := fun fm H v => hdC (tlS fm.sl) .er (celT fm H v)
def DX.loc2 : DX := fun fm H => hdX H (tlS (tlS fm.sl))
def DT.loc2 : DT := plG DX.loc2
def DI.loc2 : DI := iloc DX.loc2
def DTg.loc2 : DTg := fun fm H v => @Fm.rec (fun _ => Rg Fm) (fun sl fz => @List.rec Sl (fun _ => Rg Fm) .er (fun s0 t0 _ => @List.rec Sl (fun _ => Rg Fm) .er (fun s1 t1 _ => @List.rec Sl (fun _ => Rg Fm) .er (fun s2 t2 _ => @Sl.rec (fun _ => Rg Fm) (fun _ => .ok ⟨s0 :: s1 :: .loc (some v) :: t2, fz⟩ H) (fun _ => .er) .er s2) t1) t0) sl) fm
def DX.cel2 : DX := fun fm H => hdC (tlS (tlS fm.sl)) .er (celX H)
def DTg.cel2 : DTg := fun fm H v => hdC (tlS (tlS fm.sl)) .er (celT fm H v)
def DX.loc3 : DX := fun fm H => hdX H (tlS (tlS (tlS fm.sl)))
def DT.loc3 : DT := plG DX.loc3
def DI.loc3 : DI := iloc DX.loc3
def DTg.loc3 : DTg := fun fm H v => @Fm.rec (fun _ => Rg Fm) (fun sl fz => @List.rec Sl (fun _ => Rg Fm) .er (fun s0 t0 _ => @List.rec Sl (fun _ => Rg Fm) .er (fun s1 t1 _ => @List.rec Sl (fun _ => Rg Fm) .er (fun s2 t2 _ => @List.rec Sl (fun _ => Rg Fm) .er (fun s3 t3 _ => @Sl.rec (fun _ => Rg Fm) (fun _ => .ok ⟨s0 :: s1 :: s2 :: .loc (some v) :: t3, fz⟩ H) (fun _ => .er) .er s3) t2) t1) t0) sl) fm
def DX.cel3 : DX := fun fm H => hdC (tlS (tlS (tlS fm.sl))) .er (celX H)
def DTg.cel3 : DTg := fun fm H v => hdC (tlS (tlS (tlS fm.sl))) .er (celT fm H v)
def DX.loc4 : DX := fun fm H => hdX H (tlS (tlS (tlS (tlS fm.sl))))
def DT.loc4 : DT := plG DX.loc4
def DI.loc4 : DI := iloc DX.loc4
def DTg.loc4 : DTg := fun fm H v => @Fm.rec (fun _ => Rg Fm) (fun sl fz => @List.rec Sl (fun _ => Rg Fm) .er (fun s0 t0 _ => @List.rec Sl (fun _ => Rg Fm) .er (fun s1 t1 _ => @List.rec Sl (fun _ => Rg Fm) .er (fun s2 t2 _ => @List.rec Sl (fun _ => Rg Fm) .er (fun s3 t3 _ => @List.rec Sl (fun _ => Rg Fm) .er (fun s4 t4 _ => @Sl.rec (fun _ => Rg Fm) (fun _ => .ok ⟨s0 :: s1 :: s2 :: s3 :: .loc (some v) :: t4, fz⟩ H) (fun _ => .er) .er s4) t3) t2) t1) t0) sl) fm
def DX.cel4 : DX := fun fm H => hdC (tlS (tlS (tlS (tlS fm.sl)))) .er (celX H)
def DTg.cel4 : DTg := fun fm H v => hdC (tlS (tlS (tlS (tlS fm.sl)))) .er (celT fm H v)
def DX.loc5 : DX := fun fm H => hdX H (tlS (tlS (tlS (tlS (tlS fm.sl)))))
def DT.loc5 : DT := plG DX.loc5
def DI.loc5 : DI := iloc DX.loc5
def DTg.loc5 : DTg := fun fm H v => @Fm.rec (fun _ => Rg Fm) (fun sl fz => @List.rec Sl (fun _ => Rg Fm) .er (fun s0 t0 _ => @List.rec Sl (fun _ => Rg Fm) .er (fun s1 t1 _ => @List.rec Sl (fun _ => Rg Fm) .er (fun s2 t2 _ => @List.rec Sl (fun _ => Rg Fm) .er (fun s3 t3 _ => @List.rec Sl (fun _ => Rg Fm) .er (fun s4 t4 _ => @List.rec Sl (fun _ => Rg Fm) .er (fun s5 t5 _ => @Sl.rec (fun _ => Rg Fm) (fun _ => .ok ⟨s0 :: s1 :: s2 :: s3 :: s4 :: .loc (some v) :: t5, fz⟩ H) (fun _ => .er) .er s5) t4) t3) t2) t1) t0) sl) fm
def DX.cel5 : DX := fun fm H => hdC (tlS (tlS (tlS (tlS (tlS fm.sl))))) .er (celX H)
def DTg.cel5 : DTg := fun fm H v => hdC (tlS (tlS (tlS (tlS (tlS fm.sl))))) .er (celT fm H v)
def DX.loc6 : DX := fun fm H => hdX H (tlS (tlS (tlS (tlS (tlS (tlS fm.sl))))))
def DT.loc6 : DT := plG DX.loc6
def DI.loc6 : DI := iloc DX.loc6
def DTg.loc6 : DTg := fun fm H v => @Fm.rec (fun _ => Rg Fm) (fun sl fz => @List.rec Sl (fun _ => Rg Fm) .er (fun s0 t0 _ => @List.rec Sl (fun _ => Rg Fm) .er (fun s1 t1 _ => @List.rec Sl (fun _ => Rg Fm) .er (fun s2 t2 _ => @List.rec Sl (fun _ => Rg Fm) .er (fun s3 t3 _ => @List.rec Sl (fun _ => Rg Fm) .er (fun s4 t4 _ => @List.rec Sl (fun _ => Rg Fm) .er (fun s5 t5 _ => @List.rec Sl (fun _ => Rg Fm) .er (fun s6 t6 _ => @Sl.rec (fun _ => Rg Fm) (fun _ => .ok ⟨s0 :: s1 :: s2 :: s3 :: s4 :: s5 :: .loc (some v) :: t6, fz⟩ H) (fun _ => .er) .er s6) t5) t4) t3) t2) t1) t0) sl) fm
def DX.cel6 : DX := fun fm H => hdC (tlS (tlS (tlS (tlS (tlS (tlS fm.sl)))))) .er (celX H)
def DTg.cel6 : DTg := fun fm H v => hdC (tlS (tlS (tlS (tlS (tlS (tlS fm.sl)))))) .er (celT fm H v)
def DX.loc7 : DX := fun fm H => hdX H (tlS (tlS (tlS (tlS (tlS (tlS (tlS fm.sl)))))))
def DT.loc7 : DT := plG DX.loc7
def DI.loc7 : DI := iloc DX.loc7
def DTg.loc7 : DTg := fun fm H v => @Fm.rec (fun _ => Rg Fm) (fun sl fz => @List.rec Sl (fun _ => Rg Fm) .er (fun s0 t0 _ => @List.rec Sl (fun _ => Rg Fm) .er (fun s1 t1 _ => @List.rec Sl (fun _ => Rg Fm) .er (fun s2 t2 _ => @List.rec Sl (fun _ => Rg Fm) .er (fun s3 t3 _ => @List.rec Sl (fun _ => Rg Fm) .er (fun s4 t4 _ => @List.rec Sl (fun _ => Rg Fm) .er (fun s5 t5 _ => @List.rec Sl (fun _ => Rg Fm) .er (fun s6 t6 _ => @List.rec Sl (fun _ => Rg Fm) .er (fun s7 t7 _ => @Sl.rec (fun _ => Rg Fm) (fun _ => .ok ⟨s0 :: s1 :: s2 :: s3 :: s4 :: s5 :: s6 :: .loc (some v) :: t7, fz⟩ H) (fun _ => .er) .er s7) t6) t5) t4) t3) t2) t1) t0) sl) fm
def DX.cel7 : DX := fun fm H => hdC (tlS (tlS (tlS (tlS (tlS (tlS (tlS fm.sl))))))) .er (celX H)
def DTg.cel7 : DTg := fun fm H v => hdC (tlS (tlS (tlS (tlS (tlS (tlS (tlS fm.sl))))))) .er (celT fm H v)
def DX.loc8 : DX := fun fm H => hdX H (tlS (tlS (tlS (tlS (tlS (tlS (tlS (tlS fm.sl))))))))
def DT.loc8 : DT := plG DX.loc8
def DI.loc8 : DI := iloc DX.loc8
def DTg.loc8 : DTg := fun fm H v => @Fm.rec (fun _ => Rg Fm) (fun sl fz => @List.rec Sl (fun _ => Rg Fm) .er (fun s0 t0 _ => @List.rec Sl (fun _ => Rg Fm) .er (fun s1 t1 _ => @List.rec Sl (fun _ => Rg Fm) .er (fun s2 t2 _ => @List.rec Sl (fun _ => Rg Fm) .er (fun s3 t3 _ => @List.rec Sl (fun _ => Rg Fm) .er (fun s4 t4 _ => @List.rec Sl (fun _ => Rg Fm) .er (fun s5 t5 _ => @List.rec Sl (fun _ => Rg Fm) .er (fun s6 t6 _ => @List.rec Sl (fun _ => Rg Fm) .er (fun s7 t7 _ => @List.rec Sl (fun _ => Rg Fm) .er (fun s8 t8 _ => @Sl.rec (fun _ => Rg Fm) (fun _ => .ok ⟨s0 :: s1 :: s2 :: s3 :: s4 :: s5 :: s6 :: s7 :: .loc (some v) :: t8, fz⟩ H) (fun _ => .er) .er s8) t7) t6) t5) t4) t3) t2) t1) t0) sl) fm
def DX.cel8 : DX := fun fm H => hdC (tlS (tlS (tlS (tlS (tlS (tlS (tlS (tlS fm.sl)))))))) .er (celX H)
def DTg.cel8 : DTg := fun fm H v => hdC (tlS (tlS (tlS (tlS (tlS (tlS (tlS (tlS fm.sl)))))))) .er (celT fm H v)
def DX.loc9 : DX := fun fm H => hdX H (tlS (tlS (tlS (tlS (tlS (tlS (tlS (tlS (tlS fm.sl)))))))))
def DT.loc9 : DT := plG DX.loc9
def DI.loc9 : DI := iloc DX.loc9
def DTg.loc9 : DTg := fun fm H v => @Fm.rec (fun _ => Rg Fm) (fun sl fz => @List.rec Sl (fun _ => Rg Fm) .er (fun s0 t0 _ => @List.rec Sl (fun _ => Rg Fm) .er (fun s1 t1 _ => @List.rec Sl (fun _ => Rg Fm) .er (fun s2 t2 _ => @List.rec Sl (fun _ => Rg Fm) .er (fun s3 t3 _ => @List.rec Sl (fun _ => Rg Fm) .er (fun s4 t4 _ => @List.rec Sl (fun _ => Rg Fm) .er (fun s5 t5 _ => @List.rec Sl (fun _ => Rg Fm) .er (fun s6 t6 _ => @List.rec Sl (fun _ => Rg Fm) .er (fun s7 t7 _ => @List.rec Sl (fun _ => Rg Fm) .er (fun s8 t8 _ => @List.rec Sl (fun _ => Rg Fm) .er (fun s9 t9 _ => @Sl.rec (fun _ => Rg Fm) (fun _ => .ok ⟨s0 :: s1 :: s2 :: s3 :: s4 :: s5 :: s6 :: s7 :: s8 :: .loc (some v) :: t9, fz⟩ H) (fun _ => .er) .er s9) t8) t7) t6) t5) t4) t3) t2) t1) t0) sl) fm
def DX.loc10 : DX := fun fm H => hdX H (tlS (tlS (tlS (tlS (tlS (tlS (tlS (tlS (tlS (tlS fm.sl))))))))))
def DT.loc10 : DT := plG DX.loc10
def DI.loc10 : DI := iloc DX.loc10
def DTg.loc10 : DTg := fun fm H v => @Fm.rec (fun _ => Rg Fm) (fun sl fz => @List.rec Sl (fun _ => Rg Fm) .er (fun s0 t0 _ => @List.rec Sl (fun _ => Rg Fm) .er (fun s1 t1 _ => @List.rec Sl (fun _ => Rg Fm) .er (fun s2 t2 _ => @List.rec Sl (fun _ => Rg Fm) .er (fun s3 t3 _ => @List.rec Sl (fun _ => Rg Fm) .er (fun s4 t4 _ => @List.rec Sl (fun _ => Rg Fm) .er (fun s5 t5 _ => @List.rec Sl (fun _ => Rg Fm) .er (fun s6 t6 _ => @List.rec Sl (fun _ => Rg Fm) .er (fun s7 t7 _ => @List.rec Sl (fun _ => Rg Fm) .er (fun s8 t8 _ => @List.rec Sl (fun _ => Rg Fm) .er (fun s9 t9 _ => @List.rec Sl (fun _ => Rg Fm) .er (fun s10 t10 _ => @Sl.rec (fun _ => Rg Fm) (fun _ => .ok ⟨s0 :: s1 :: s2 :: s3 :: s4 :: s5 :: s6 :: s7 :: s8 :: s9 :: .loc (some v) :: t10, fz⟩ H) (fun _ => .er) .er s10) t9) t8) t7) t6) t5) t4) t3) t2) t1) t0) sl) fm
def DX.loc11 : DX := fun fm H => hdX H (tlS (tlS (tlS (tlS (tlS (tlS (tlS (tlS (tlS (tlS (tlS fm.sl)))))))))))
def DT.loc11 : DT := plG DX.loc11
def DI.loc11 : DI := iloc DX.loc11
def DTg.loc11 : DTg := fun fm H v => @Fm.rec (fun _ => Rg Fm) (fun sl fz => @List.rec Sl (fun _ => Rg Fm) .er (fun s0 t0 _ => @List.rec Sl (fun _ => Rg Fm) .er (fun s1 t1 _ => @List.rec Sl (fun _ => Rg Fm) .er (fun s2 t2 _ => @List.rec Sl (fun _ => Rg Fm) .er (fun s3 t3 _ => @List.rec Sl (fun _ => Rg Fm) .er (fun s4 t4 _ => @List.rec Sl (fun _ => Rg Fm) .er (fun s5 t5 _ => @List.rec Sl (fun _ => Rg Fm) .er (fun s6 t6 _ => @List.rec Sl (fun _ => Rg Fm) .er (fun s7 t7 _ => @List.rec Sl (fun _ => Rg Fm) .er (fun s8 t8 _ => @List.rec Sl (fun _ => Rg Fm) .er (fun s9 t9 _ => @List.rec Sl (fun _ => Rg Fm) .er (fun s10 t10 _ => @List.rec Sl (fun _ => Rg Fm) .er (fun s11 t11 _ => @Sl.rec (fun _ => Rg Fm) (fun _ => .ok ⟨s0 :: s1 :: s2 :: s3 :: s4 :: s5 :: s6 :: s7 :: s8 :: s9 :: s10 :: .loc (some v) :: t11, fz⟩ H) (fun _ => .er) .er s11) t10) t9) t8) t7) t6) t5) t4) t3) t2) t1) t0) sl) fm
def DX.loc12 : DX := fun fm H => hdX H (tlS (tlS (tlS (tlS (tlS (tlS (tlS (tlS (tlS (tlS (tlS (tlS fm.sl))))))))))))
def DT.loc12 : DT := plG DX.loc12
def DI.loc12 : DI := iloc DX.loc12
def DTg.loc12 : DTg := fun fm H v => @Fm.rec (fun _ => Rg Fm) (fun sl fz => @List.rec Sl (fun _ => Rg Fm) .er (fun s0 t0 _ => @List.rec Sl (fun _ => Rg Fm) .er (fun s1 t1 _ => @List.rec Sl (fun _ => Rg Fm) .er (fun s2 t2 _ => @List.rec Sl (fun _ => Rg Fm) .er (fun s3 t3 _ => @List.rec Sl (fun _ => Rg Fm) .er (fun s4 t4 _ => @List.rec Sl (fun _ => Rg Fm) .er (fun s5 t5 _ => @List.rec Sl (fun _ => Rg Fm) .er (fun s6 t6 _ => @List.rec Sl (fun _ => Rg Fm) .er (fun s7 t7 _ => @List.rec Sl (fun _ => Rg Fm) .er (fun s8 t8 _ => @List.rec Sl (fun _ => Rg Fm) .er (fun s9 t9 _ => @List.rec Sl (fun _ => Rg Fm) .er (fun s10 t10 _ => @List.rec Sl (fun _ => Rg Fm) .er (fun s11 t11 _ => @List.rec Sl (fun _ => Rg Fm) .er (fun s12 t12 _ => @Sl.rec (fun _ => Rg Fm) (fun _ => .ok ⟨s0 :: s1 :: s2 :: s3 :: s4 :: s5 :: s6 :: s7 :: s8 :: s9 :: s10 :: s11 :: .loc (some v) :: t12, fz⟩ H) (fun _ => .er) .er s12) t11) t10) t9) t8) t7) t6) t5) t4) t3) t2) t1) t0) sl) fm
def DX.loc13 : DX := fun fm H => hdX H (tlS (tlS (tlS (tlS (tlS (tlS (tlS (tlS (tlS (tlS (tlS (tlS (tlS fm.sl)))))))))))))
def DT.loc13 : DT := plG DX.loc13
def DI.loc13 : DI := iloc DX.loc13
def DTg.loc13 : DTg := fun fm H v => @Fm.rec (fun _ => Rg Fm) (fun sl fz => @List.rec Sl (fun _ => Rg Fm) .er (fun s0 t0 _ => @List.rec Sl (fun _ => Rg Fm) .er (fun s1 t1 _ => @List.rec Sl (fun _ => Rg Fm) .er (fun s2 t2 _ => @List.rec Sl (fun _ => Rg Fm) .er (fun s3 t3 _ => @List.rec Sl (fun _ => Rg Fm) .er (fun s4 t4 _ => @List.rec Sl (fun _ => Rg Fm) .er (fun s5 t5 _ => @List.rec Sl (fun _ => Rg Fm) .er (fun s6 t6 _ => @List.rec Sl (fun _ => Rg Fm) .er (fun s7 t7 _ => @List.rec Sl (fun _ => Rg Fm) .er (fun s8 t8 _ => @List.rec Sl (fun _ => Rg Fm) .er (fun s9 t9 _ => @List.rec Sl (fun _ => Rg Fm) .er (fun s10 t10 _ => @List.rec Sl (fun _ => Rg Fm) .er (fun s11 t11 _ => @List.rec Sl (fun _ => Rg Fm) .er (fun s12 t12 _ => @List.rec Sl (fun _ => Rg Fm) .er (fun s13 t13 _ => @Sl.rec (fun _ => Rg Fm) (fun _ => .ok ⟨s0 :: s1 :: s2 :: s3 :: s4 :: s5 :: s6 :: s7 :: s8 :: s9 :: s10 :: s11 :: s12 :: .loc (some v) :: t13, fz⟩ H) (fun _ => .er) .er s13) t12) t11) t10) t9) t8) t7) t6) t5) t4) t3) t2) t1) t0) sl) fm
def DX.loc14 : DX := fun fm H => hdX H (tlS (tlS (tlS (tlS (tlS (tlS (tlS (tlS (tlS (tlS (tlS (tlS (tlS (tlS fm.sl))))))))))))))
def DT.loc14 : DT := plG DX.loc14
def DI.loc14 : DI := iloc DX.loc14
def DTg.loc14 : DTg := fun fm H v => @Fm.rec (fun _ => Rg Fm) (fun sl fz => @List.rec Sl (fun _ => Rg Fm) .er (fun s0 t0 _ => @List.rec Sl (fun _ => Rg Fm) .er (fun s1 t1 _ => @List.rec Sl (fun _ => Rg Fm) .er (fun s2 t2 _ => @List.rec Sl (fun _ => Rg Fm) .er (fun s3 t3 _ => @List.rec Sl (fun _ => Rg Fm) .er (fun s4 t4 _ => @List.rec Sl (fun _ => Rg Fm) .er (fun s5 t5 _ => @List.rec Sl (fun _ => Rg Fm) .er (fun s6 t6 _ => @List.rec Sl (fun _ => Rg Fm) .er (fun s7 t7 _ => @List.rec Sl (fun _ => Rg Fm) .er (fun s8 t8 _ => @List.rec Sl (fun _ => Rg Fm) .er (fun s9 t9 _ => @List.rec Sl (fun _ => Rg Fm) .er (fun s10 t10 _ => @List.rec Sl (fun _ => Rg Fm) .er (fun s11 t11 _ => @List.rec Sl (fun _ => Rg Fm) .er (fun s12 t12 _ => @List.rec Sl (fun _ => Rg Fm) .er (fun s13 t13 _ => @List.rec Sl (fun _ => Rg Fm) .er (fun s14 t14 _ => @Sl.rec (fun _ => Rg Fm) (fun _ => .ok ⟨s0 :: s1 :: s2 :: s3 :: s4 :: s5 :: s6 :: s7 :: s8 :: s9 :: s10 :: s11 :: s12 :: s13 :: .loc (some v) :: t14, fz⟩ H) (fun _ => .er) .er s14) t13) t12) t11) t10) t9) t8) t7) t6) t5) t4) t3) t2) t1) t0) sl) fm
def DX.loc15 : DX := fun fm H => hdX H (tlS (tlS (tlS (tlS (tlS (tlS (tlS (tlS (tlS (tlS (tlS (tlS (tlS (tlS (tlS fm.sl)))))))))))))))
def DT.loc15 : DT := plG DX.loc15
def DI.loc15 : DI := iloc DX.loc15
def DTg.loc15 : DTg := fun fm H v => @Fm.rec (fun _ => Rg Fm) (fun sl fz => @List.rec Sl (fun _ => Rg Fm) .er (fun s0 t0 _ => @List.rec Sl (fun _ => Rg Fm) .er (fun s1 t1 _ => @List.rec Sl (fun _ => Rg Fm) .er (fun s2 t2 _ => @List.rec Sl (fun _ => Rg Fm) .er (fun s3 t3 _ => @List.rec Sl (fun _ => Rg Fm) .er (fun s4 t4 _ => @List.rec Sl (fun _ => Rg Fm) .er (fun s5 t5 _ => @List.rec Sl (fun _ => Rg Fm) .er (fun s6 t6 _ => @List.rec Sl (fun _ => Rg Fm) .er (fun s7 t7 _ => @List.rec Sl (fun _ => Rg Fm) .er (fun s8 t8 _ => @List.rec Sl (fun _ => Rg Fm) .er (fun s9 t9 _ => @List.rec Sl (fun _ => Rg Fm) .er (fun s10 t10 _ => @List.rec Sl (fun _ => Rg Fm) .er (fun s11 t11 _ => @List.rec Sl (fun _ => Rg Fm) .er (fun s12 t12 _ => @List.rec Sl (fun _ => Rg Fm) .er (fun s13 t13 _ => @List.rec Sl (fun _ => Rg Fm) .er (fun s14 t14 _ => @List.rec Sl (fun _ => Rg Fm) .er (fun s15 t15 _ => @Sl.rec (fun _ => Rg Fm) (fun _ => .ok ⟨s0 :: s1 :: s2 :: s3 :: s4 :: s5 :: s6 :: s7 :: s8 :: s9 :: s10 :: s11 :: s12 :: s13 :: s14 :: .loc (some v) :: t15, fz⟩ H) (fun _ => .er) .er s15) t14) t13) t12) t11) t10) t9) t8) t7) t6) t5) t4) t3) t2) t1) t0) sl) fm
variable [k : Inhabited OrcW]
def g_mk : List DS := [.asg (.loc1) (.sub (.loc0) (.cst (.int 0))), .ifs (.isi "str" (.loc1)) [.asg (.loc2) (.cut (.loc0))] [.ifs (.isi "tuple" (.loc1)) [.asg (.loc2) (.comp (.sub (.loc1) (.cst (.int 1))) (.one .loc1) (.loc0) [] [.loc, .loc])] [.ifs (.isi "int" (.loc1)) [.ret (.loc0)] [.rais]]], .asg (.loc3) (.lst []), .asg (.loc4) (.cst (.int 1)), .fr (.one .loc5) (.rng [.cst (.int 1), .len (.loc2)]) [.ifs (.cmp .eq (.sub (.loc2) (.loc5)) (.sub (.loc2) (.bin .sub (.loc5) (.cst (.int 1))))) [.aug .loc4 .loc4 (.cst (.int 1))] [.exp (.app (.loc3) (.loc4)), .asg (.loc4) (.cst (.int 1))]], .exp (.app (.loc3) (.loc4)), .ret (.loc3)]
def d_mk : DF := ⟨1, [.par 0, .loc, .loc, .loc, .loc, .loc, .oth, .oth, .oth, .oth, .oth, .oth, .oth], [], g_mk⟩
def g_un : List DS := [.asg (.loc1) (.sub (.loc0) (.cst (.int 0))), .ifs (.isi "str" (.loc1)) [.ret (.loc0)] [.ifs (.isi "tuple" (.loc1)) [.ret (.loc0)] [.ifs (.isi "int" (.loc1)) [.asg (.loc2) (.cut (.loc0))] [.rais]]], .asg (.loc3) (.lst []), .whl (.loc2) [.exp (.ext (.loc3) (.bin .mul (.pop0 (.loc2)) (.lst [.cst (.str ⟨#[100]⟩)]))), .ifs (.loc2) [.exp (.ext (.loc3) (.bin .mul (.pop0 (.loc2)) (.lst [.cst (.str ⟨#[105]⟩)])))] []], .ret (.loc3)]
def d_un : DF := ⟨1, [.par 0, .loc, .loc, .loc, .oth, .oth, .oth, .oth, .oth], [], g_un⟩
def g_cw : List DS := [.asg (.loc1) (.sub (.loc0) (.cst (.int 0))), .ifs (.isi "str" (.loc1)) [.ifs (.isi "list" (.loc0)) [.asg (.loc2) (.cut (.loc0))] [.asg (.loc2) (.cpy (.loc0))]] [.ifs (.isi "tuple" (.loc1)) [.asg (.loc2) (.comp (.sub (.loc1) (.cst (.int 1))) (.one .loc1) (.loc0) [] [.loc, .loc])] [.ifs (.isi "int" (.loc1)) [.asg (.loc2) (.call d_un [.loc0])] [.rais]]], .exp (.rev (.loc2)), .asg (.loc3) (.cst (.int 0)), .asg (.loc4) (.cst (.str ⟨#[105]⟩)), .fr (.two .loc5 .loc6) (.enu (.loc2)) [.ifs (.cmp .eq (.loc6) (.cst (.str ⟨#[105]⟩))) [.sto (.loc2) (.loc5) (.loc3), .asg (.loc4) (.loc6)] [.ifs (.cmp .eq (.loc4) (.cst (.str ⟨#[105]⟩))) [.asg (.loc4) (.loc6), .aug .loc3 .loc3 (.cst (.int 1))] []]], .exp (.rev (.loc2)), .fr (.two .loc5 .loc6) (.enu (.loc2)) [.ifs (.cmp .eq (.loc6) (.cst (.str ⟨#[100]⟩))) [.sto (.loc2) (.loc5) (.loc3), .asg (.loc4) (.loc6)] [.ifs (.cmp .eq (.loc4) (.cst (.str ⟨#[100]⟩))) [.asg (.loc4) (.loc6), .aug .loc3 .loc3 (.cst (.int 1))] []]], .ifs (.cmp .eq (.loc4) (.cst (.str ⟨#[100]⟩))) [.aug .loc3 .loc3 (.cst (.int 1))] [], .asg (.cel7) (.bin .div (.cst (.int 1)) (.loc3)), .ret (.comp (.bin .mul (.loc1) (.cel2)) (.one .loc1) (.loc2) [] [.loc, .loc, .fre 7])]
def d_cw : DF := ⟨1, [.par 0, .loc, .loc, .loc, .loc, .loc, .loc, .cel, .oth, .oth, .oth, .oth, .oth, .oth, .oth, .oth], [], g_cw⟩
def g_wc : List DS := [.ifs (.bop true [.loc2, .loc3]) [.dead] [], .ifs (.isi "dict" (.loc0)) [.asg (.loc6) (.comp (.lst [.loc2, .loc1]) (.two .loc1 .loc2) (.dead) [] [.loc, .loc, .loc])] [.asg (.loc6) (.comp (.lst [.loc2, .loc1]) (.two .loc1 .loc2) (.enu (.loc0)) [] [.loc, .loc, .loc])], .exp (.srt (.loc6)), .asg (.loc7) (.lst []), .asg (.loc8) (.bin .sub (.loc1) (.sub (.sub (.loc6) (.neg (.cst (.int 1)))) (.cst (.int 0)))), .whl (.loc6) [.ifs (.cmp .lt (.sub (.sub (.loc6) (.cst (.int 0))) (.cst (.int 0))) (.loc8)) [.asgT [.loc5, .loc4] (.pop0 (.loc6)), .exp (.app (.loc7) (.tup [.loc4, .cst (.str ⟨#[105]⟩)]))] [.asgT [.loc5, .loc4] (.pop (.loc6)), .exp (.app (.loc7) (.tup [.loc4, .cst (.str ⟨#[100]⟩)])), .asg (.loc8) (.bin .sub (.loc1) (.sub (.sub (.loc6) (.neg (.cst (.int 1)))) (.cst (.int 0))))], .ifs (.cmp .eq (.len (.loc6)) (.cst (.int 1))) [.asgT [.loc5, .loc4] (.pop (.loc6)), .exp (.app (.loc7) (.tup [.loc4, .cst (.str ⟨#[100]⟩)]))] []], .exp (.rev (.loc7)), .ifs (.loc2) [.ret (.loc7)] [], .ifs (.loc3) [.ret (.call d_mk [.loc7])] [], .ret (.comp (.sub (.loc1) (.cst (.int 1))) (.one .loc1) (.loc7) [] [.loc, .loc])]
def d_wc : DF := ⟨4, [.par 0, .par 1, .par 2, .par 3, .loc, .loc, .loc, .loc, .loc, .oth, .oth, .oth, .oth, .oth, .oth], [.bool false, .bool false], g_wc⟩
def g_lr : List DS := [.asg (.loc1) (.lst []), .fr (.one .loc2) (.rng [.len (.loc0)]) [.ifs (.bop true [.cmp .gt (.loc2) (.cst (.int 0)), .cmp .eq (.sub (.loc0) (.loc2)) (.sub (.loc0) (.bin .sub (.loc2) (.cst (.int 1))))]) [.augs (.loc1) (.neg (.cst (.int 1))) (.cst (.int 1))] [.exp (.app (.loc1) (.cst (.int 1)))]], .ret (.loc1)]
def d_lr : DF := ⟨1, [.par 0, .loc, .loc, .oth, .oth], [], g_lr⟩
def g_lw : List DS := [.asg (.loc2) (.comp (.loc1) (.one .loc1) (.rng [.len (.cel0)]) [.bop false [.cmp .eq (.loc1) (.cst (.int 0)), .cmp .ne (.sub (.cel2) (.loc1)) (.sub (.cel2) (.bin .sub (.loc1) (.cst (.int 1))))]] [.loc, .loc, .fre 0]), .asg (.loc3) (.comp (.loc1) (.one .loc1) (.loc2) [.cmp .eq (.sub (.cel2) (.loc1)) (.cst (.str ⟨#[100]⟩))] [.loc, .loc, .fre 0]), .asg (.loc4) (.comp (.loc1) (.one .loc1) (.loc2) [.cmp .eq (.sub (.cel2) (.loc1)) (.cst (.str ⟨#[105]⟩))] [.loc, .loc, .fre 0]), .asg (.loc5) (.lst []), .fr (.one .cel1) (.rng [.len (.cel0)]) [.ifs (.cmp .eq (.sub (.cel0) (.cel1)) (.cst (.str ⟨#[105]⟩))) [.exp (.app (.loc5) (.len (.comp (.loc1) (.one .loc1) (.loc3) [.cmp .gt (.loc1) (.cel2)] [.loc, .loc, .fre 1])))] [.exp (.app (.loc5) (.bin .add (.len (.loc3)) (.len (.comp (.loc1) (.one .loc1) (.loc4) [.cmp .lt (.loc1) (.cel2)] [.loc, .loc, .fre 1]))))]], .ret (.tup [.loc5, .len (.loc3)])]
def d_lw : DF := ⟨1, [.parc 0, .cel, .loc, .loc, .loc, .loc, .oth, .oth], [], g_lw⟩
def g_pre : List DS := [.asg (.loc2) (.bin .add (.cst (.int 1)) (.bin .mod (.sub (.cel1) (.cst (.int 0))) (.cst (.int 8)))), .asg (.cel3) (.bin .add (.lst [.cst (.str ⟨#[100]⟩)]) (.comp (.ite (.cmp .eq (.bin .mod (.bin .fdiv (.sub (.cel2) (.cst (.int 1))) (.bin .pow (.cst (.int 2)) (.loc1))) (.cst (.int 2))) (.cst (.int 1))) (.cst (.str ⟨#[100]⟩)) (.cst (.str ⟨#[105]⟩))) (.one .loc1) (.rng [.bin .sub (.loc2) (.cst (.int 1))]) [] [.loc, .loc, .fre 1])), .asg (.loc4) (.comp (.tup [.bin .add (.bin .mul (.cst (.int 8)) (.sub (.cel3) (.bin .add (.cst (.int 2)) (.loc1)))) (.loc1), .sub (.cel2) (.loc1)]) (.one .loc1) (.rng [.loc2]) [] [.loc, .loc, .fre 3, .fre 1]), .asgW [.loc5, .loc6] (.tup [.join (.cel3), .call d_lr [.cel3]]), .asgT [.loc7, .cel8] (.call d_lw [.cel3]), .asg (.loc9) (.comp (.bin .mul (.loc1) (.bin .div (.cst (.int 1)) (.bin .mul (.cst (.int 2)) (.cel2)))) (.one .loc1) (.loc7) [] [.loc, .loc, .fre 8]), .asgW [.loc10, .loc11, .loc12] (.tup [.cpy (.cel3), .cpy (.loc4), .cpy (.loc6)]), .ifs (.cmp .ne (.lst [.call d_mk [.loc5], .call d_mk [.loc10], .call d_mk [.loc11], .call d_mk [.loc12]]) (.bin .mul (.lst [.loc6]) (.cst (.int 4)))) [.ret (.cst (.bool false))] [], .ifs (.bop false [.cmp .ne (.call d_un [.loc12]) (.cel3), .cmp .ne (.call d_un [.loc10]) (.cel3), .cmp .ne (.call d_un [.loc11]) (.loc4)]) [.ret (.cst (.bool false))] [], .asg (.loc13) (.call d_cw [.loc10]), .ifs (.bop false [.cmp .ne (.loc13) (.loc9), .cmp .ne (.loc10) (.cel3), .cmp .ne (.loc12) (.loc6), .cmp .ne (.loc11) (.loc4)]) [.ret (.cst (.bool false))] [], .ifs (.cmp .ne (.lst [.call d_cw [.loc5], .call d_cw [.loc11], .call d_cw [.loc12]]) (.bin .mul (.lst [.loc9]) (.cst (.int 3)))) [.ret (.cst (.bool false))] []]
def g_cs : List DT := [.cmp .ne (.loc10) (.cel3), .cmp .ne (.loc12) (.loc6), .cmp .ne (.loc11) (.loc4)]
def g_post : List DS := [.fr (.one .loc14) (.rng [.loc2]) [.fr (.one .loc15) (.rng [.loc14]) [.ifs (.cmp .ne (.cmp .ge (.bin .add (.sub (.loc7) (.loc14)) (.sub (.loc7) (.loc15))) (.bin .mul (.cst (.int 2)) (.cel8))) (.cmp .eq (.sub (.cel3) (.loc14)) (.cst (.str ⟨#[100]⟩)))) [.ret (.cst (.bool false))] []]], .ret (.bop false [.cmp .eq (.loc2) (.cst (.int 1)), .cmp .eq (.call d_wc [.cpy (.loc7), .bin .mul (.cst (.int 2)) (.cel8)]) (.cel3)])]
def rowD : Bool := rowB g_pre g_cs g_post
end
noncomputable def rowG (r : Int) (bits : List Bool) : Bool := @rowD ⟨⟨⟨some r, bits⟩⟩⟩
end Mine
end
section
open PySem
namespace Mine
set_option maxRecDepth 100000
set_option autoImplicit false
set_option linter.unusedVariables false

section
variable {H H1 : Hp} {L : List O}
theorem newL_ok (R : Rp H L) {xs : List V} {v : V} (h : newL H xs = .ok v H1) : v = .ref L.length ∧ Rp H1 (L ++ [.list xs]) := by
  cases h
  exact ⟨by rw [R.n], R.push _⟩
theorem addLen {α : Type} (xs ys : List α) : Nat.add (llen xs) (llen ys) = xs.length + ys.length := by rw [llen_eq, llen_eq]; rfl

theorem oth_fdiv {K : Orc} {v u : V} {p : V × List O} (h : bop2 K [] .fdiv v u = some p) : bop2 K L .fdiv v u = some (p.1, L) := by
  cases v <;> cases u <;> first | (cases h; done) | skip
  simp only [bop2] at h ⊢
  split at h
  · cases h; rfl
  · cases h
theorem oth_mod {K : Orc} {v u : V} {p : V × List O} (h : bop2 K [] .mod v u = some p) : bop2 K L .mod v u = some (p.1, L) := by
  cases v <;> cases u <;> first | (cases h; done) | skip
  · simp only [bop2] at h ⊢
    split at h
    · cases h; rfl
    · cases h
  · simp only [bop2] at h ⊢
    split at h
    · split at h
      · cases h; rfl
      · cases h
    · cases h
  · simp only [bop2] at h ⊢
    split at h
    · split at h
      · cases h; rfl
      · cases h; rfl
      · cases h
    · cases h
theorem oth_pow {K : Orc} {v u : V} {p : V × List O} (h : bop2 K [] .pow v u = some p) : bop2 K L .pow v u = some (p.1, L) := by
  cases v <;> cases u <;> first | (cases h; done) | skip
  rename_i a b
  cases b with
  | negSucc _ => cases h
  | ofNat n =>
    simp only [bop2] at h ⊢
    split at h
    · cases h; rfl
    · cases h
theorem add_sim {K : Orc} (R : Rp H L) {v u y : V} (h : addG v u H = .ok y H1) : ∃ L1, bop2 K L .add v u = some (y, L1) ∧ Rp H1 L1 := by
  cases v <;> first | (cases h; done) | skip
  · obtain ⟨j, rfl, h⟩ := vInt_ne h nofun
    cases h
    exact ⟨_, by simp only [bop2, iadd_eq], R⟩
  · obtain ⟨n, rfl, h⟩ := vRef_ne h nofun
    obtain ⟨xs, e1, h⟩ := oB_ne h nofun
    obtain ⟨ys, e2, h⟩ := oB_ne h nofun
    obtain ⟨e3, h⟩ := bB_ne h nofun
    rw [addLen] at e3
    obtain ⟨rfl, R1⟩ := newL_ok R h
    rw [lapp_eq] at R1
    exact ⟨_, by simp only [bop2, R.get e1, R.get e2, e3], R1⟩
  · obtain ⟨j, rfl, h⟩ := vInt_ne h nofun
    cases h
    exact ⟨_, by simp only [bop2], R⟩
theorem sub_sim {K : Orc} (R : Rp H L) {v u y : V} (h : subOG v u H = .ok y H1) : ∃ L1, bop2 K L .sub v u = some (y, L1) ∧ Rp H1 L1 := by
  obtain ⟨i, rfl, h1⟩ := vInt_ne h nofun
  obtain ⟨j, rfl, h2⟩ := vInt_ne h1 nofun
  cases h2
  exact ⟨_, by simp only [bop2, isub_eq], R⟩
theorem mul_sim {K : Orc} (R : Rp H L) {v u y : V} (h : mulG v u H = .ok y H1) : ∃ L1, bop2 K L .mul v u = some (y, L1) ∧ Rp H1 L1 := by
  cases v <;> first | (cases h; done) | skip
  · rename_i i
    cases u <;> first | (cases h; done) | skip
    · obtain ⟨e1, h⟩ := bB_ne h nofun
      obtain ⟨e2, h⟩ := bB_ne h nofun
      rw [ile_eq] at e1 e2
      cases h
      exact ⟨_, by simp only [bop2, e1, e2, Bool.and_true, imul_eq], R⟩
    · obtain ⟨k, rfl, h⟩ := iNat_ne h nofun
      obtain ⟨xs, e1, h⟩ := oB_ne h nofun
      obtain ⟨e2, h⟩ := bB_ne h nofun
      obtain ⟨e3, h⟩ := bB_ne h nofun
      rw [llen_eq] at e3
      obtain ⟨rfl, R1⟩ := newL_ok R h
      exact ⟨_, by simp only [bop2, R.get e1, e2, e3, Bool.and_true], R1⟩
    · obtain ⟨e1, h⟩ := bB_ne h nofun
      obtain ⟨e2, h⟩ := bB_ne h nofun
      obtain ⟨e3, h⟩ := bB_ne h nofun
      rw [ile_eq] at e1 e2
      rw [ieq_eq] at e3
      cases h
      exact ⟨_, by simp only [bop2, e1, e2, e3, Bool.and_true], R⟩
    · obtain ⟨k, rfl, h⟩ := iNat_ne h nofun
      obtain ⟨e2, h⟩ := bB_ne h nofun
      cases h
      exact ⟨_, by simp only [bop2, e2], R⟩
  · obtain ⟨j, rfl, h⟩ := vInt_ne h nofun
    obtain ⟨k, rfl, h⟩ := iNat_ne h nofun
    obtain ⟨xs, e1, h⟩ := oB_ne h nofun
    obtain ⟨e2, h⟩ := bB_ne h nofun
    obtain ⟨e3, h⟩ := bB_ne h nofun
    rw [llen_eq] at e3
    obtain ⟨rfl, R1⟩ := newL_ok R h
    exact ⟨_, by simp only [bop2, R.get e1, e2, e3, Bool.and_true], R1⟩
theorem div_sim {K : Orc} (R : Rp H L) {v u y : V} (h : divG v u H = .ok y H1) : ∃ L1, bop2 K L .div v u = some (y, L1) ∧ Rp H1 L1 := by
  obtain ⟨i, rfl, h1⟩ := vInt_ne h nofun
  obtain ⟨j, rfl, h2⟩ := vInt_ne h1 nofun
  obtain ⟨d, rfl, h3⟩ := iNat_ne h2 nofun
  clear h h1 h2
  obtain ⟨e1, h⟩ := bB_ne h3 nofun
  obtain ⟨e2, h⟩ := bB_ne h nofun
  obtain ⟨e3, h⟩ := bB_ne h nofun
  rw [ieq_eq] at e1
  have := of_decide_eq_true e1
  subst this
  cases h
  refine ⟨_, ?_, R⟩
  show (match Nat.ble 1 d && Nat.ble d 8 with
    | true => some (V.inv d, L)
    | false => none) = _
  simp only [e2, e3, Bool.and_true]
theorem bop_sim {K : Orc} (R : Rp H L) {op : Op} {v u y : V} (h : bopG K op v u H = .ok y H1) : ∃ L1, bop2 K L op v u = some (y, L1) ∧ Rp H1 L1 := by
  cases op
  · exact add_sim R h
  · exact sub_sim R h
  · exact mul_sim R h
  · exact div_sim R h
  · obtain ⟨p, e, h⟩ := oB_ne (x := bop2 K [] .fdiv v u) h nofun
    cases h
    exact ⟨_, oth_fdiv e, R⟩
  · obtain ⟨p, e, h⟩ := oB_ne (x := bop2 K [] .mod v u) h nofun
    cases h
    exact ⟨_, oth_mod e, R⟩
  · obtain ⟨p, e, h⟩ := oB_ne (x := bop2 K [] .pow v u) h nofun
    cases h
    exact ⟨_, oth_pow e, R⟩

theorem and_bB (a b : Bool) : bB a false b = (a && b) := by cases a <;> rfl
theorem eqG_succ (k : Nat) : eqG (k + 1) = ⟨eqVs (eqG k), eqLs (eqG k)⟩ := rfl
theorem eq_sim (R : Rp H L) : ∀ k, (∀ a b c, (eqG k).v H a b = some c → eqV k L a b = some c) ∧ (∀ a b c, (eqG k).l H a b = some c → eqL k L a b = some c)
  | 0 => ⟨fun _ _ _ h => (nomatch h), fun _ _ _ h => (nomatch h)⟩
  | k + 1 => by
    obtain ⟨ihv, ihl⟩ := eq_sim R k
    rw [eqG_succ]
    refine ⟨fun a b c h => ?_, fun xs ys c h => ?_⟩
    · replace h : eqVs (eqG k) H a b = some c := h
      cases a with
      | none => cases b <;> first | (cases h; done) | (cases h; rfl)
      | bool x => cases b <;> first | (cases h; done) | (cases h; rfl)
      | int x => cases b <;> first | (cases h; done) | (cases h; rfl) | (cases h; simp only [eqV, ieq_eq])
      | str x => cases b <;> first | (cases h; done) | (cases h; rfl) | (cases h; simp only [eqV, streq_eq])
      | lin a1 j1 b1 =>
        cases b with
        | lin a2 j2 b2 =>
          obtain ⟨e1, h⟩ := bB_ne h nofun
          obtain ⟨e2, h⟩ := bB_ne h nofun
          obtain ⟨e3, h⟩ := bB_ne h nofun
          rw [ieq_eq] at e1 e3
          cases h
          simp only [eqV, e1, e2, e3, Bool.and_true]
        | _ => cases h
      | mul n1 d1 =>
        cases b with
        | mul n2 d2 =>
          obtain ⟨e1, h⟩ := bB_ne h nofun
          obtain ⟨e2, h⟩ := bB_ne h nofun
          cases h
          simp only [eqV, e1, e2, Bool.and_true]
        | _ => cases h
      | ref m =>
        obtain ⟨n, rfl, h⟩ := vRef_ne h nofun
        simp only [eqV]
        replace h : bB (Nat.beq m n) _ _ = some c := h
        cases hb : Nat.beq m n with
        | true =>
          rw [hb] at h
          cases h
          rfl
        | false =>
          rw [hb] at h
          obtain ⟨o, e1, h⟩ := oB_ne (x := hget H m) h nofun
          simp only [R.g _ _ e1]
          cases o with
          | list xs =>
            obtain ⟨ys, e2, h⟩ := oB_ne (x := getG H n) h nofun
            simp only [R.g _ _ (getG_o e2)]
            rw [llen_eq, llen_eq] at h
            cases hl : Nat.beq xs.length ys.length with
            | true => rw [hl] at h; exact ihl _ _ _ h
            | false => rw [hl] at h; cases h; rfl
          | tup xs =>
            obtain ⟨o2, e2, h⟩ := oB_ne (x := hget H n) h nofun
            simp only [R.g _ _ e2]
            cases o2 with
            | tup ys =>
              replace h : bB (Nat.beq (llen xs) (llen ys)) none ((eqG k).l H xs ys) = some c := h
              rw [llen_eq, llen_eq] at h
              obtain ⟨e3, h⟩ := bB_ne h nofun
              simp only [e3]
              exact ihl _ _ _ h
            | _ => cases h
          | cell _ => cases h
      | _ => cases h
    · replace h : eqLs (eqG k) H xs ys = some c := h
      cases xs with
      | nil => cases ys with
        | nil => cases h; rfl
        | cons _ _ => cases h
      | cons x xt => cases ys with
        | nil => cases h
        | cons y yt =>
          obtain ⟨a, e1, h⟩ := oB_ne (x := (eqG k).v H x y) h nofun
          obtain ⟨b, e2, h⟩ := oB_ne (x := (eqG k).l H xt yt) h nofun
          cases h
          simp only [eqL, ihv _ _ _ e1, ihl _ _ _ e2, and_bB]
theorem sameG_eq (v u : V) : sameG v u = sameRef v u := by
  cases v <;> first | rfl | (cases u <;> rfl)
theorem cmp_sim (R : Rp H L) {op : Cm} {v u : V} {c : Bool} (h : cmpG op v u H = some c) : cmp2 L op v u = some c := by
  cases op
  · replace h : bB (sameG v u) (eqVs (eqG 39) H v u) none = some c := h
    rw [sameG_eq] at h
    cases hs : sameRef v u with
    | true => rw [hs] at h; cases h
    | false =>
      rw [hs] at h
      simp only [cmp2, hs]
      exact (eq_sim R 40).1 v u c h
  · replace h : bB (sameG v u) (oB (eqVs (eqG 39) H v u) none fun r => some (notB r)) none = some c := h
    rw [sameG_eq] at h
    cases hs : sameRef v u with
    | true => rw [hs] at h; cases h
    | false =>
      rw [hs] at h
      obtain ⟨r, e, h⟩ := oB_ne (x := eqVs (eqG 39) H v u) h nofun
      simp only [cmp2, hs, (eq_sim R 40).1 v u r e]
      cases h
      cases r <;> rfl
  all_goals
    obtain ⟨i, rfl, h1⟩ := vInt_ne h nofun
    obtain ⟨j, rfl, h2⟩ := vInt_ne h1 nofun
    cases h2
    simp only [cmp2, ilt_eq, ile_eq]
theorem tru_sim (R : Rp H L) {v : V} {c : Bool} (h : truG H v = some c) : tru L v = some c := by
  cases v <;> first | (cases h; done) | skip
  · exact h
  · obtain ⟨xs, e1, h⟩ := oB_ne h nofun
    obtain ⟨e2, h⟩ := bB_ne h nofun
    rw [lsm_eq] at e2
    cases h
    simp only [tru, R.get e1, e2]
    cases xs <;> rfl
theorem isi_sim (R : Rp H L) {v : V} {T : String} {c : Bool} (h : isiG H T v = some c) : isiV L T v = some c := by
  cases v with
  | ref n =>
    obtain ⟨o, e1, h⟩ := oB_ne h nofun
    cases o with
    | list xs => simp only [isiV, R.g _ _ e1]; exact h
    | tup xs => simp only [isiV, R.g _ _ e1]; exact h
    | cell _ => cases h
  | _ => exact h
end
/-! slots -/
inductive F2 {α β : Type} (r : α → β → Prop) : List α → List β → Prop where
  | nil : F2 r [] []
  | cons {a b l m} : r a b → F2 r l m → F2 r (a :: l) (b :: m)
theorem F2.mono {α β : Type} {r r' : α → β → Prop} (h : ∀ a b, r a b → r' a b) : ∀ {l m}, F2 r l m → F2 r' l m
  | _, _, .nil => .nil
  | _, _, .cons a b => .cons (h _ _ a) (F2.mono h b)
theorem F2.app {α β : Type} {r : α → β → Prop} : ∀ {l m l' m'}, F2 r l m → F2 r l' m' → F2 r (l ++ l') (m ++ m')
  | _, _, _, _, .nil, g => g
  | _, _, _, _, .cons a b, g => .cons a (F2.app b g)
theorem F2.rev {α β : Type} {r : α → β → Prop} : ∀ {l m}, F2 r l m → F2 r l.reverse m.reverse
  | _, _, .nil => .nil
  | _, _, .cons a b => by
    rw [List.reverse_cons, List.reverse_cons]
    exact (F2.rev b).app (.cons a .nil)
theorem F2.len {α β : Type} {r : α → β → Prop} : ∀ {l m}, F2 r l m → l.length = m.length
  | _, _, .nil => rfl
  | _, _, .cons a b => congrArg (· + 1) (F2.len b)
noncomputable def nt : Nat → List Sl → List Sl
  | 0, xs => xs
  | n + 1, xs => tlS (nt n xs)
theorem tlS_eq (xs : List Sl) : tlS xs = xs.tail := by cases xs <;> rfl
theorem nt_drop : ∀ (i : Nat) (xs : List Sl), nt i xs = xs.drop i
  | 0, _ => rfl
  | i + 1, xs => by rw [nt, nt_drop i, tlS_eq, List.tail_drop]
theorem drop_get {xs t : List Sl} {s : Sl} {i : Nat} (h : xs.drop i = s :: t) : xs[i]? = some s := by
  have := List.getElem?_drop (xs := xs) (i := i) (j := 0)
  rw [h] at this
  simpa using this.symm
theorem hdX_ok {H H1 : Hp} {i : Nat} {xs : List Sl} {v : V} (h : hdX H (nt i xs) = .ok v H1) : xs[i]? = some (.loc (some v)) ∧ H1 = H := by
  rw [nt_drop] at h
  cases e : xs.drop i with
  | nil => rw [e] at h; cases h
  | cons s t =>
    rw [e] at h
    rw [drop_get e]
    cases s with
    | loc w => cases w with
      | some v' => cases h; exact ⟨rfl, rfl⟩
      | none => cases h
    | _ => cases h
theorem hdC_ok {γ : Type} {i : Nat} {xs : List Sl} {e t : γ} {f : Nat → γ} (h : hdC (nt i xs) e f = t) (hne : e ≠ t) : ∃ n, xs[i]? = some (.cel n) ∧ f n = t := by
  rw [nt_drop] at h
  cases hx : xs.drop i with
  | nil => rw [hx] at h; exact absurd h hne
  | cons s tl =>
    rw [hx] at h
    rw [drop_get hx]
    cases s with
    | cel n => exact ⟨n, rfl, h⟩
    | _ => exact absurd h hne
theorem setK_ok {γ : Type} {v : V} {e t : γ} : ∀ {i : Nat} {xs : List Sl} {f : List Sl → γ} (h : setK v e i xs f = t) (hne : e ≠ t), ∃ w, xs[i]? = some (.loc w) ∧ f (xs.set i (.loc (some v))) = t
  | 0, [], f, h, hne => absurd h hne
  | 0, s :: tl, f, h, hne => by
    cases s with
    | loc w => exact ⟨w, rfl, h⟩
    | _ => exact absurd h hne
  | i + 1, [], f, h, hne => absurd h hne
  | i + 1, s :: tl, f, h, hne => by
    obtain ⟨w, a, b⟩ := setK_ok (i := i) (xs := tl) (f := fun t' => f (s :: t')) h hne
    exact ⟨w, by simpa using a, b⟩
def DenTg (t : Tg) (d : DTg) : Prop := ∀ {H H1 : Hp} {L : List O} {fm fm1 : Fm} {v : V}, Rp H L → d fm H v = .ok fm1 H1 → ∃ L1, put fm L t v = some (fm1, L1) ∧ Rp H1 L1
theorem den_tgl {i : Nat} {d : DTg} (hd : ∀ fm H v, d fm H v = setK v .er i fm.sl fun l => .ok ⟨l, fm.fz⟩ H) : DenTg (.loc i) d := fun {H H1 L fm fm1 v} R h => by
  rw [hd] at h
  obtain ⟨w, a, b⟩ := setK_ok h nofun
  cases b
  exact ⟨L, by simp only [put, a, setSl], R⟩
theorem den_tgc {i : Nat} {d : DTg} (hd : ∀ fm H v, d fm H v = hdC (nt i fm.sl) .er (celT fm H v)) : DenTg (.cel i) d := fun {H H1 L fm fm1 v} R h => by
  rw [hd] at h
  obtain ⟨n, a, b⟩ := hdC_ok h nofun
  obtain ⟨c, e2, h⟩ := oB_ne (x := cellG H n) b nofun
  obtain ⟨e3, h⟩ := bB_ne h nofun
  cases h
  exact ⟨_, by simp only [put, a, R.g _ _ (cellG_o e2), e3], R.set _ (R.lt (cellG_o e2))⟩
theorem puts_sim : ∀ {ts : List Tg} {ds : List DTg} (D : F2 DenTg ts ds) {H H1 : Hp} {L : List O} (R : Rp H L) {fm fm1 : Fm} {vs : List V} (h : putsG ds fm H vs = .ok fm1 H1), ∃ L1, puts fm L ts vs = some (fm1, L1) ∧ Rp H1 L1
  | _, _, .nil, H, H1, L, R, fm, fm1, vs, h => by
    cases vs with
    | nil => cases h; exact ⟨_, rfl, R⟩
    | cons _ _ => cases h
  | _, _, .cons (a := t) (b := d) (l := ts) (m := ds) hx ht, H, H1, L, R, fm, fm1, vs, h => by
    cases vs with
    | nil => cases h
    | cons v r =>
      obtain ⟨fm2, H2, e1, h⟩ := gB_ne (x := d fm H v) h nofun
      obtain ⟨L2, p1, R2⟩ := hx R e1
      obtain ⟨L3, p2, R3⟩ := puts_sim ht R2 h
      exact ⟨L3, by simp only [puts, p1, p2], R3⟩
def DenP (tg : List Tg) (pair : Bool) (p : DP) : Prop := ∀ {H H1 : Hp} {L : List O} {fm fm1 : Fm} {v : V} {u : Option V}, Rp H L → p fm H v u = .ok fm1 H1 → ∃ L1, putI fm L tg pair v u = some (fm1, L1) ∧ Rp H1 L1
theorem den_one {t : Tg} {d : DTg} (D : DenTg t d) : DenP [t] false (.one d) := fun {H H1 L fm fm1 v u} R h => by
  cases u with
  | none => exact D R h
  | some _ => cases h
theorem den_two {t1 t2 : Tg} {d1 d2 : DTg} (D1 : DenTg t1 d1) (D2 : DenTg t2 d2) : DenP [t1, t2] true (.two d1 d2) := fun {H H1 L fm fm1 v u} R h => by
  cases u with
  | none => cases h
  | some w =>
    obtain ⟨fm2, H2, e1, h⟩ := gB_ne (x := d1 fm H v) h nofun
    obtain ⟨L2, p1, R2⟩ := D1 R e1
    obtain ⟨L3, p2, R3⟩ := D2 R2 h
    exact ⟨L3, by simp only [putI, puts, p1, p2], R3⟩
section
variable {H H1 : Hp} {L : List O}
theorem next_fin (R : Rp H L) {it : It} (h : nextG H it = .fin) : ∃ it', nextI L it = some (none, none, it') := by
  cases it with
  | rng a n => cases n with
    | zero => exact ⟨_, rfl⟩
    | succ n => cases h
  | lst n i =>
    obtain ⟨xs, e1, h⟩ := oB_ne (x := getG H n) h nofun
    simp only [nextI, R.get e1]
    rw [lget_eq] at h
    cases hx : xs[i]? with
    | none => exact ⟨_, rfl⟩
    | some v => rw [hx] at h; cases h
  | enm n i =>
    obtain ⟨xs, e1, h⟩ := oB_ne (x := getG H n) h nofun
    simp only [nextI, R.get e1]
    rw [lget_eq] at h
    cases hx : xs[i]? with
    | none => exact ⟨_, rfl⟩
    | some v => rw [hx] at h; cases h
theorem next_one (R : Rp H L) {it it' : It} {v : V} (h : nextG H it = .one v it') : nextI L it = some (some v, none, it') := by
  cases it with
  | rng a n => cases n with
    | zero => cases h
    | succ n => cases h; simp only [nextI, iadd_eq]
  | lst n i =>
    obtain ⟨xs, e1, h⟩ := oB_ne (x := getG H n) h nofun
    simp only [nextI, R.get e1]
    rw [lget_eq] at h
    cases hx : xs[i]? with
    | none => rw [hx] at h; cases h
    | some w => rw [hx] at h; cases h; rfl
  | enm n i =>
    obtain ⟨xs, e1, h⟩ := oB_ne (x := getG H n) h nofun
    rw [lget_eq] at h
    cases hx : xs[i]? with
    | none => rw [hx] at h; cases h
    | some v => rw [hx] at h; cases h
theorem next_two (R : Rp H L) {it it' : It} {v u : V} (h : nextG H it = .two v u it') : nextI L it = some (some v, some u, it') := by
  cases it with
  | rng a n => cases n with
    | zero => cases h
    | succ n => cases h
  | lst n i =>
    obtain ⟨xs, e1, h⟩ := oB_ne (x := getG H n) h nofun
    rw [lget_eq] at h
    cases hx : xs[i]? with
    | none => rw [hx] at h; cases h
    | some v => rw [hx] at h; cases h
  | enm n i =>
    obtain ⟨xs, e1, h⟩ := oB_ne (x := getG H n) h nofun
    simp only [nextI, R.get e1]
    rw [lget_eq] at h
    cases hx : xs[i]? with
    | none => rw [hx] at h; cases h
    | some w => rw [hx] at h; cases h; rfl
theorem idx_sim {n j : Nat} {i : Int} (h : idxG n i = some j) : idxI n i = some j := by
  cases i with
  | ofNat k =>
    obtain ⟨e1, h⟩ := bB_ne h nofun
    obtain ⟨e2, h⟩ := bB_ne h nofun
    cases h
    have a : j < 1000 := by have := Nat.le_of_ble_eq_true e1; omega
    simp only [idxI]
    rw [show (decide ((0 : Int) ≤ Int.ofNat j) && decide (Int.ofNat j < 1000) && Nat.blt (Int.ofNat j).toNat n) = true from by
      simp only [Bool.and_eq_true, decide_eq_true_eq]
      exact ⟨⟨Int.natCast_nonneg j, by have : (j : Int) < 1000 := by exact_mod_cast a
                                       exact this⟩, e2⟩]
    rfl
  | negSucc m =>
    obtain ⟨e1, h⟩ := bB_ne h nofun
    obtain ⟨e2, h⟩ := bB_ne h nofun
    obtain ⟨e3, h⟩ := bB_ne h nofun
    cases h
    have := Nat.eq_of_beq_eq_true e1
    subst this
    simp only [idxI]
    rw [show (decide ((0 : Int) ≤ Int.negSucc 0) && decide (Int.negSucc 0 < 1000) && Nat.blt (Int.negSucc 0).toNat n) = false from rfl]
    simp only []
    rw [show (decide (Int.negSucc 0 = -1) && Nat.blt 0 n && Nat.ble n 1000) = true from by rw [e2, e3]; rfl]
    rfl
theorem idxI_lt {n j : Nat} {i : Int} (h : idxI n i = some j) : j < n := by
  unfold idxI at h
  split at h
  · rename_i q
    cases h
    simp only [Bool.and_eq_true] at q
    exact Nat.le_of_ble_eq_true q.2
  · split at h
    · rename_i q
      cases h
      simp only [Bool.and_eq_true] at q
      have := Nat.le_of_ble_eq_true q.1.2
      omega
    · cases h
theorem pop_sim (R : Rp H L) {fm : Fm} {v y : V} {first : Bool} (h : popG fm v H first = .ok y H1) : ∃ L1, popAt fm L v first = some (y, L1) ∧ Rp H1 L1 := by
  obtain ⟨n, rfl, h⟩ := vRef_ne h nofun
  obtain ⟨xs, e1, h⟩ := oB_ne h nofun
  obtain ⟨e2, h⟩ := bB_ne h nofun
  obtain ⟨e3, h⟩ := bB_ne h nofun
  rw [lsm_eq] at e3
  simp only [popAt, R.get e1, e2, e3, Bool.and_true]
  cases first with
  | true =>
    cases xs with
    | nil => cases h
    | cons x ys => cases h; exact ⟨_, rfl, R.set _ (R.lt' e1)⟩
  | false =>
    cases xs with
    | nil => cases h
    | cons x ys => cases h; exact ⟨_, rfl, R.set _ (R.lt' e1)⟩
theorem subV_sim (R : Rp H L) {v u y : V} (h : subG H v u = some y) : subV L v u = some y := by
  cases v <;> first | (cases h; done) | skip
  · obtain ⟨i, rfl, h⟩ := vInt_ne h nofun
    obtain ⟨j, e1, h⟩ := oB_ne h nofun
    obtain ⟨c, e2, h⟩ := oB_ne h nofun
    rw [llen_eq] at e1
    rw [lget_eq] at e2
    cases h
    simp only [subV, idx_sim e1, e2]
  · obtain ⟨i, rfl, h1⟩ := vInt_ne h nofun
    obtain ⟨xs, e0, h2⟩ := oB_ne h1 nofun
    cases i with
    | ofNat k =>
      obtain ⟨e1, h3⟩ := bB_ne (b := Nat.blt k 1000) h2 nofun
      rw [lget_eq] at h3
      have hlt : Nat.blt k xs.length = true := Nat.ble_eq_true_of_le (List.getElem?_eq_some_iff.mp h3).1
      have e2 : idxG xs.length (.ofNat k) = some k := by
        show bB (Nat.blt k 1000) none (bB (Nat.blt k xs.length) none (some k)) = some k
        rw [e1, hlt]; rfl
      simp only [subV, R.seq e0, idx_sim e2, h3]
    | negSucc m =>
      obtain ⟨j, e1, h3⟩ := oB_ne (x := idxG (llen xs) (Int.negSucc m)) h2 nofun
      rw [llen_eq] at e1
      rw [lget_eq] at h3
      simp only [subV, R.seq e0, idx_sim e1, h3]
theorem pair_sim (R : Rp H L) {v : V} {p : Int × Int} (h : pairG H v = some p) : intPair L v = some p := by
  obtain ⟨n, rfl, h⟩ := vRef_ne h nofun
  obtain ⟨xs, e0, h⟩ := oB_ne h nofun
  simp only [intPair, R.g _ _ (getG_o e0)]
  split at h
  · cases h; rfl
  · cases h
theorem pairs_sim (R : Rp H L) : ∀ {vs : List V} {ps : List (Int × Int)} (h : pairsG H vs = some ps), intPairs L vs = some ps
  | [], ps, h => by cases h; rfl
  | v :: vs, ps, h => by
    obtain ⟨p, e1, h⟩ := oB_ne (x := pairG H v) h nofun
    obtain ⟨l, e2, h⟩ := oB_ne (x := pairsG H vs) h nofun
    cases h
    simp only [intPairs, pair_sim R e1, pairs_sim R e2]
theorem sto_sim (R : Rp H L) {fm : Fm} {o i v : V} (h : stoG fm H o i v = some H1) : ∃ L1, stoV fm L o i v = some L1 ∧ Rp H1 L1 := by
  obtain ⟨n, rfl, h⟩ := vRef_ne h nofun
  obtain ⟨i, rfl, h⟩ := vInt_ne h nofun
  obtain ⟨xs, e1, h⟩ := oB_ne h nofun
  obtain ⟨e2, h⟩ := bB_ne h nofun
  obtain ⟨j, e3, h⟩ := oB_ne h nofun
  rw [llen_eq] at e3
  cases h
  rw [lset_eq]
  exact ⟨_, by simp only [stoV, R.get e1, e2, idx_sim e3], R.set _ (R.lt' e1)⟩
theorem seqV_sim (R : Rp H L) {v : V} {xs : List V} (h : seqVG H v = some xs) : seqOf L v = some xs := by
  obtain ⟨n, rfl, h⟩ := vRef_ne h nofun
  exact R.seq h
end
theorem mkF_sim (vs : List V) : ∀ (ps : List PS) {H : Hp} {L : List O} (R : Rp H L), (mkFG vs ps H).s = (mkF vs ps L).1 ∧ Rp (mkFG vs ps H).H (mkF vs ps L).2
  | [], H, L, R => ⟨rfl, R⟩
  | p :: ps, H, L, R => by
    cases p with
    | par k =>
      obtain ⟨a, b⟩ := mkF_sim vs ps R
      refine ⟨?_, b⟩
      show Sl.loc (lget vs k) :: (mkFG vs ps H).s = Sl.loc vs[k]? :: (mkF vs ps L).1
      rw [a, lget_eq]
    | loc =>
      obtain ⟨a, b⟩ := mkF_sim vs ps R
      refine ⟨?_, b⟩
      show Sl.loc none :: (mkFG vs ps H).s = Sl.loc none :: (mkF vs ps L).1
      rw [a]
    | oth =>
      obtain ⟨a, b⟩ := mkF_sim vs ps R
      refine ⟨?_, b⟩
      show Sl.oth :: (mkFG vs ps H).s = Sl.oth :: (mkF vs ps L).1
      rw [a]
    | parc k =>
      have e : lget vs k = vs[k]? := lget_eq vs k
      obtain ⟨a, b⟩ := mkF_sim vs ps (R.push (.cell (lget vs k)))
      rw [e] at a b
      refine ⟨?_, ?_⟩
      · show Sl.cel H.n :: (mkFG vs ps (hpush H (.cell (lget vs k)))).s = Sl.cel L.length :: (mkF vs ps (L ++ [.cell vs[k]?])).1
        rw [e, a, R.n]
      · show Rp (mkFG vs ps (hpush H (.cell (lget vs k)))).H (mkF vs ps (L ++ [.cell vs[k]?])).2
        rw [e]; exact b
    | cel =>
      obtain ⟨a, b⟩ := mkF_sim vs ps (R.push (.cell none))
      refine ⟨?_, b⟩
      show Sl.cel H.n :: (mkFG vs ps (hpush H (.cell none))).s = Sl.cel L.length :: (mkF vs ps (L ++ [.cell none])).1
      rw [a, R.n]
theorem mkC_sim (fm : Fm) : ∀ (cs : List CS) {s : List Sl} (h : mkCG fm cs = some s), mkC fm cs = some s
  | [], s, h => by cases h; rfl
  | c :: cs, s, h => by
    obtain ⟨l, e1, h⟩ := oB_ne (x := mkCG fm cs) h nofun
    have ih := mkC_sim fm cs e1
    cases c with
    | loc => cases h; simp only [mkC, ih]
    | oth => cases h; simp only [mkC, ih]
    | fre i =>
      obtain ⟨s2, e2, h⟩ := oB_ne (x := lget fm.sl i) h nofun
      obtain ⟨n, rfl, h⟩ := sCel_ne h nofun
      rw [lget_eq] at e2
      cases h
      simp only [mkC, e2, ih]
end Mine
end
section
open PySem
namespace Mine
set_option maxRecDepth 100000
set_option autoImplicit false
set_option linter.unusedVariables false

theorem run_ev (K : Orc) (P : List FnD) (m : Nat) : (run K P (m + 1)).ev = evF K P (run K P m) := rfl
theorem run_ts (K : Orc) (P : List FnD) (m : Nat) : (run K P (m + 1)).ts = tsF (run K P m) := rfl
theorem run_st (K : Orc) (P : List FnD) (m : Nat) : (run K P (m + 1)).st = stF (run K P m) := rfl

def Out : Rs → Option (R × Fm × List O) → Prop
  | .nx fm H, y => ∃ L, y = some (.next, fm, L) ∧ Rp H L
  | .rt v fm H, y => ∃ L, y = some (.ret v, fm, L) ∧ Rp H L
  | .er, _ => False

section
variable [k : Inhabited OrcW]
def DenX (n : Nat) (x : X) (d : DX) : Prop := ∀ m, n ≤ m → ∀ {fm : Fm} {H H1 : Hp} {L : List O} {v : V}, Rp H L → d fm H = .ok v H1 → ∃ L1, (run k.default.K PP m).ev fm L x = some (v, L1) ∧ Rp H1 L1
def DenT (n : Nat) (x : X) (d : DT) : Prop := ∀ m, n ≤ m → ∀ {fm : Fm} {H H1 : Hp} {L : List O} {v : Bool}, Rp H L → d fm H = .ok v H1 → ∃ L1, (run k.default.K PP m).ts fm L x = some (v, L1) ∧ Rp H1 L1
def DenI (n : Nat) (x : X) (d : DI) : Prop := ∀ m, n ≤ m → ∀ {fm : Fm} {H H1 : Hp} {L : List O} {v : It}, Rp H L → d fm H = .ok v H1 → ∃ L1, iterOf (run k.default.K PP m) fm L x = some (v, L1) ∧ Rp H1 L1
def DenS (n : Nat) (x : S) (d : DS) : Prop := ∀ m, n ≤ m → ∀ {fm : Fm} {H : Hp} {L : List O} {t : Rs}, Rp H L → d fm H = t → t ≠ .er → Out t ((run k.default.K PP m).st fm L x)
def DenL (n : Nat) : List X → List DX → Prop := F2 (DenX n)
def DenTL (n : Nat) : List X → List DT → Prop := F2 (DenT n)
def DenSL (n : Nat) : List S → List DS → Prop := F2 (DenS n)
structure DenF (n : Nat) (fn : FnD) (d : DF) : Prop where
  ar : d.ar = fn.ar
  sl : d.sl = fn.sl
  dfl : d.dfl = fn.dfl
  body : DenSL n fn.body d.body

theorem evL_sim {n m : Nat} (hm : n ≤ m) {fm : Fm} : ∀ {xs : List X} {ds : List DX} (h : DenL n xs ds) {H H1 : Hp} {L : List O} {vs : List V}, Rp H L → evLG ds fm H = .ok vs H1 → ∃ L1, evL (run k.default.K PP m) fm L xs = some (vs, L1) ∧ Rp H1 L1
  | _, _, .nil, H, H1, L, vs, R, h => by cases h; exact ⟨_, rfl, R⟩
  | _, _, .cons (a := x) (b := d) (l := xs) (m := ds) hx ht, H, H1, L, vs, R, h => by
    obtain ⟨v, H2, e1, h⟩ := gB_ne (x := d fm H) h nofun
    obtain ⟨L2, p1, R2⟩ := hx m hm R e1
    obtain ⟨ws, H3, e2, h⟩ := gB_ne (x := evLG ds fm H2) h nofun
    obtain ⟨L3, p2, R3⟩ := evL_sim hm ht R2 e2
    cases h
    exact ⟨L3, by simp only [evL, p1, p2], R3⟩
theorem stL_sim {n m : Nat} (hm : n ≤ m) : ∀ {ss : List S} {ds : List DS} (h : DenSL n ss ds) {fm : Fm} {H : Hp} {L : List O} {t : Rs}, Rp H L → stLG ds fm H = t → t ≠ .er → Out t (stL (run k.default.K PP m) fm L ss)
  | _, _, .nil, fm, H, L, t, R, h, ne => by subst h; exact ⟨_, rfl, R⟩
  | _, _, .cons (a := s) (b := d) (l := ss) (m := ds) hx ht, fm, H, L, t, R, h, ne => by
    replace h : sB (d fm H) (stLG ds) = t := h
    cases e : d fm H with
    | er => rw [e] at h; exact absurd h.symm ne
    | nx fm1 H1 =>
      rw [e] at h
      obtain ⟨L1, p1, R1⟩ := hx m hm R e nofun
      simp only [stL, p1]
      exact stL_sim hm ht R1 h ne
    | rt v fm1 H1 =>
      rw [e] at h
      obtain ⟨L1, p1, R1⟩ := hx m hm R e nofun
      subst h
      exact ⟨L1, by simp only [stL, p1], R1⟩
theorem allT_sim {n m : Nat} (hm : n ≤ m) {fm : Fm} {isAnd : Bool} : ∀ {xs : List X} {ds : List DT} (h : DenTL n xs ds) {H H1 : Hp} {L : List O} {b : Bool}, Rp H L → allG isAnd ds fm H = .ok b H1 → ∃ L1, allT (run k.default.K PP m) fm isAnd L xs = some (b, L1) ∧ Rp H1 L1
  | _, _, .nil, H, H1, L, b, R, h => by cases h; exact ⟨_, rfl, R⟩
  | _, _, .cons (a := x) (b := d) (l := xs) (m := ds) hx ht, H, H1, L, b, R, h => by
    obtain ⟨c, H2, e1, h⟩ := gB_ne (x := d fm H) h nofun
    obtain ⟨L2, p1, R2⟩ := hx m hm R e1
    simp only [allT, p1]
    cases isAnd <;> cases c
    · exact allT_sim hm ht R2 h
    · cases h; exact ⟨_, rfl, R2⟩
    · cases h; exact ⟨_, rfl, R2⟩
    · exact allT_sim hm ht R2 h
theorem boolV_sim {n m : Nat} (hm : n ≤ m) {fm : Fm} {isAnd : Bool} : ∀ {xs : List X} {ds : List DX} (h : DenL n xs ds) {H H1 : Hp} {L : List O} {b : V}, Rp H L → boolG isAnd ds fm H = .ok b H1 → ∃ L1, boolV (run k.default.K PP m) fm isAnd L xs = some (b, L1) ∧ Rp H1 L1
  | _, _, .nil, H, H1, L, b, R, h => by cases h
  | _, _, .cons (a := x) (b := d) (l := xs) (m := ds) hx ht, H, H1, L, b, R, h => by
    cases ht with
    | nil => exact hx m hm R h
    | cons hy ht' =>
      have ht2 := F2.cons hy ht'
      obtain ⟨v, H2, e1, h⟩ := gB_ne (x := d fm H) h nofun
      obtain ⟨L2, p1, R2⟩ := hx m hm R e1
      obtain ⟨c, e2, h⟩ := oB_ne (x := truG H2 v) h nofun
      simp only [boolV, p1, tru_sim R2 e2]
      cases isAnd <;> cases c
      · exact boolV_sim hm ht2 R2 h
      · cases h; exact ⟨_, rfl, R2⟩
      · cases h; exact ⟨_, rfl, R2⟩
      · exact boolV_sim hm ht2 R2 h

theorem up {n : Nat} {p : Nat → Prop} (h : ∀ m, n ≤ m → p (m + 1)) : ∀ m, n + 1 ≤ m → p m := fun m hm => by
  obtain ⟨j, rfl⟩ : ∃ j, m = j + 1 := ⟨m - 1, by omega⟩
  exact h j (by omega)

section
variable {n : Nat}
theorem den_cst (c : V) : DenX (n + 1) (.cst c) (.cst c) := up fun m hm fm H H1 L v R h => by
  cases h; exact ⟨_, rfl, R⟩
theorem den_loc {i : Nat} {d : DX} (hd : ∀ fm H, d fm H = hdX H (nt i fm.sl)) : DenX (n + 1) (.loc i) d := up fun m hm fm H H1 L v R h => by
  rw [hd] at h
  obtain ⟨a, rfl⟩ := hdX_ok h
  exact ⟨L, by simp only [run_ev, evF, a], R⟩
theorem den_cel {i : Nat} {d : DX} (hd : ∀ fm H, d fm H = hdC (nt i fm.sl) .er (celX H)) : DenX (n + 1) (.cel i) d := up fun m hm fm H H1 L v R h => by
  rw [hd] at h
  obtain ⟨j, e1, h1⟩ := hdC_ok h nofun
  obtain ⟨c, e2, h2⟩ := oB_ne (x := cellG H j) h1 nofun
  obtain ⟨w, e3, h3⟩ := oB_ne (x := c) h2 nofun
  subst e3
  cases h3
  exact ⟨_, by simp only [run_ev, evF, e1, R.g _ _ (cellG_o e2)], R⟩
theorem den_bin {op : Op} {a b : X} {da db : DX} (A : DenX n a da) (B : DenX n b db) : DenX (n + 1) (.bin op a b) (.bin op da db) := up fun m hm fm H H1 L v R h => by
  obtain ⟨v1, H2, e1, h⟩ := gB_ne (x := da fm H) h nofun
  obtain ⟨L2, p1, R2⟩ := A m hm R e1
  obtain ⟨v2, H3, e2, h⟩ := gB_ne (x := db fm H2) h nofun
  obtain ⟨L3, p2, R3⟩ := B m hm R2 e2
  obtain ⟨L4, p3, R4⟩ := bop_sim (K := k.default.K) R3 h
  exact ⟨L4, by simp only [run_ev, evF, p1, p2, p3], R4⟩
theorem den_cmp {op : Cm} {a b : X} {da db : DX} (A : DenX n a da) (B : DenX n b db) : DenX (n + 1) (.cmp op a b) (.cmp op da db) := up fun m hm fm H H1 L v R h => by
  obtain ⟨v1, H2, e1, h⟩ := gB_ne (x := da fm H) h nofun
  obtain ⟨L2, p1, R2⟩ := A m hm R e1
  obtain ⟨v2, H3, e2, h⟩ := gB_ne (x := db fm H2) h nofun
  obtain ⟨L3, p2, R3⟩ := B m hm R2 e2
  obtain ⟨c, e3, h⟩ := oB_ne h nofun
  cases h
  exact ⟨L3, by simp only [run_ev, evF, p1, p2, cmp_sim R3 e3], R3⟩
theorem den_neg {a : X} {da : DX} (A : DenX n a da) : DenX (n + 1) (.neg a) (.neg da) := up fun m hm fm H H1 L v R h => by
  obtain ⟨v1, H2, e1, h⟩ := gB_ne (x := da fm H) h nofun
  obtain ⟨i, rfl, h⟩ := vInt_ne h nofun
  obtain ⟨L2, p1, R2⟩ := A m hm R e1
  cases h
  exact ⟨L2, by simp only [run_ev, evF, p1], R2⟩
theorem den_bop {isAnd : Bool} {l : List X} {dl : List DX} (A : DenL n l dl) : DenX (n + 1) (.bop isAnd l) (.bop isAnd dl) := up fun m hm fm H H1 L v R h => by
  obtain ⟨L2, p1, R2⟩ := boolV_sim hm A R h
  exact ⟨L2, by simp only [run_ev, evF, p1], R2⟩
theorem den_ite {t a b : X} {dt : DT} {da db : DX} (T : DenT n t dt) (A : DenX n a da) (B : DenX n b db) : DenX (n + 1) (.ite t a b) (.ite dt da db) := up fun m hm fm H H1 L v R h => by
  obtain ⟨c, H2, e1, h⟩ := gB_ne (x := dt fm H) h nofun
  obtain ⟨L2, p1, R2⟩ := T m hm R e1
  cases c with
  | true =>
    obtain ⟨L3, p2, R3⟩ := A m hm R2 h
    exact ⟨L3, by simp only [run_ev, evF, p1, p2], R3⟩
  | false =>
    obtain ⟨L3, p2, R3⟩ := B m hm R2 h
    exact ⟨L3, by simp only [run_ev, evF, p1, p2], R3⟩
theorem den_sub {a b : X} {da db : DX} (A : DenX n a da) (B : DenX n b db) : DenX (n + 1) (.sub a b) (.sub da db) := up fun m hm fm H H1 L v R h => by
  obtain ⟨v1, H2, e1, h⟩ := gB_ne (x := da fm H) h nofun
  obtain ⟨L2, p1, R2⟩ := A m hm R e1
  obtain ⟨v2, H3, e2, h⟩ := gB_ne (x := db fm H2) h nofun
  obtain ⟨L3, p2, R3⟩ := B m hm R2 e2
  obtain ⟨c, e3, h⟩ := oB_ne h nofun
  cases h
  exact ⟨L3, by simp only [run_ev, evF, p1, p2, subV_sim R3 e3], R3⟩
theorem den_cut {a : X} {da : DX} (A : DenX n a da) : DenX (n + 1) (.cut a) (.cut da) := up fun m hm fm H H1 L v R h => by
  obtain ⟨v1, H2, e1, h⟩ := gB_ne (x := da fm H) h nofun
  obtain ⟨L2, p1, R2⟩ := A m hm R e1
  cases v1 <;> first | (cases h; done) | skip
  · obtain ⟨e2, h⟩ := bB_ne h nofun
    cases h
    exact ⟨L2, by simp only [run_ev, evF, p1, e2], R2⟩
  · obtain ⟨xs, e2, h⟩ := oB_ne h nofun
    obtain ⟨e3, h⟩ := bB_ne h nofun
    rw [lsm_eq] at e3
    obtain ⟨rfl, R3⟩ := newL_ok R2 h
    exact ⟨_, by simp only [run_ev, evF, p1, R2.get e2, e3], R3⟩
theorem den_lst {l : List X} {dl : List DX} (A : DenL n l dl) : DenX (n + 1) (.lst l) (.lst dl) := up fun m hm fm H H1 L v R h => by
  obtain ⟨vs, H2, e1, h⟩ := gB_ne (x := evLG dl fm H) h nofun
  obtain ⟨L2, p1, R2⟩ := evL_sim hm A R e1
  obtain ⟨e3, h⟩ := bB_ne h nofun
  rw [lsm_eq] at e3
  obtain ⟨rfl, R3⟩ := newL_ok R2 h
  exact ⟨_, by simp only [run_ev, evF, p1, e3], R3⟩
theorem den_tup {l : List X} {dl : List DX} (A : DenL n l dl) : DenX (n + 1) (.tup l) (.tup dl) := up fun m hm fm H H1 L v R h => by
  obtain ⟨vs, H2, e1, h⟩ := gB_ne (x := evLG dl fm H) h nofun
  obtain ⟨L2, p1, R2⟩ := evL_sim hm A R e1
  obtain ⟨e3, h⟩ := bB_ne h nofun
  rw [lsm_eq] at e3
  cases h
  exact ⟨_, by simp only [run_ev, evF, p1, e3, R2.n], R2.push _⟩
theorem den_len {a : X} {da : DX} (A : DenX n a da) : DenX (n + 1) (.len a) (.len da) := up fun m hm fm H H1 L v R h => by
  obtain ⟨v1, H2, e1, h⟩ := gB_ne (x := da fm H) h nofun
  obtain ⟨L2, p1, R2⟩ := A m hm R e1
  cases v1 <;> first | (cases h; done) | skip
  · obtain ⟨e3, h⟩ := bB_ne h nofun
    rw [lsm_eq] at e3
    cases h
    exact ⟨_, by simp only [run_ev, evF, p1, e3, llen_eq]; rfl, R2⟩
  · obtain ⟨xs, e2, h⟩ := oB_ne h nofun
    obtain ⟨e3, h⟩ := bB_ne h nofun
    rw [lsm_eq] at e3
    cases h
    exact ⟨_, by simp only [run_ev, evF, p1, R2.get e2, e3, llen_eq]; rfl, R2⟩
theorem den_isi {T : String} {a : X} {da : DX} (A : DenX n a da) : DenX (n + 1) (.isi T a) (.isi T da) := up fun m hm fm H H1 L v R h => by
  obtain ⟨v1, H2, e1, h⟩ := gB_ne (x := da fm H) h nofun
  obtain ⟨L2, p1, R2⟩ := A m hm R e1
  obtain ⟨b, e2, h⟩ := oB_ne h nofun
  cases h
  exact ⟨_, by simp only [run_ev, evF, p1, isi_sim R2 e2], R2⟩
theorem den_cpy {a : X} {da : DX} (A : DenX n a da) : DenX (n + 1) (.cpy a) (.cpy da) := up fun m hm fm H H1 L v R h => by
  obtain ⟨v1, H2, e1, h⟩ := gB_ne (x := da fm H) h nofun
  obtain ⟨L2, p1, R2⟩ := A m hm R e1
  cases v1 <;> first | (cases h; done) | skip
  · obtain ⟨e3, h⟩ := bB_ne h nofun
    rw [lsm_eq] at e3
    obtain ⟨rfl, R3⟩ := newL_ok R2 h
    exact ⟨_, by simp only [run_ev, evF, p1, e3], R3⟩
  · obtain ⟨xs, e2, h⟩ := oB_ne h nofun
    obtain ⟨e3, h⟩ := bB_ne h nofun
    rw [lsm_eq] at e3
    obtain ⟨rfl, R3⟩ := newL_ok R2 h
    exact ⟨_, by simp only [run_ev, evF, p1, R2.get e2, e3], R3⟩
theorem den_join {a : X} {da : DX} (A : DenX n a da) : DenX (n + 1) (.join a) (.join da) := up fun m hm fm H H1 L v R h => by
  obtain ⟨v1, H2, e1, h⟩ := gB_ne (x := da fm H) h nofun
  obtain ⟨j, rfl, h⟩ := vRef_ne h nofun
  obtain ⟨L2, p1, R2⟩ := A m hm R e1
  obtain ⟨xs, e2, h⟩ := oB_ne h nofun
  obtain ⟨ts, e3, h⟩ := oB_ne h nofun
  obtain ⟨e4, h⟩ := bB_ne h nofun
  cases h
  exact ⟨_, by simp only [run_ev, evF, p1, R2.get e2, e3, e4], R2⟩
theorem den_pop0 {a : X} {da : DX} (A : DenX n a da) : DenX (n + 1) (.pop0 a) (.pop0 da) := up fun m hm fm H H1 L v R h => by
  obtain ⟨v1, H2, e1, h⟩ := gB_ne (x := da fm H) h nofun
  obtain ⟨L2, p1, R2⟩ := A m hm R e1
  obtain ⟨L3, p2, R3⟩ := pop_sim R2 h
  exact ⟨_, by simp only [run_ev, evF, p1, p2], R3⟩
theorem den_pop {a : X} {da : DX} (A : DenX n a da) : DenX (n + 1) (.pop a) (.pop da) := up fun m hm fm H H1 L v R h => by
  obtain ⟨v1, H2, e1, h⟩ := gB_ne (x := da fm H) h nofun
  obtain ⟨L2, p1, R2⟩ := A m hm R e1
  obtain ⟨L3, p2, R3⟩ := pop_sim R2 h
  exact ⟨_, by simp only [run_ev, evF, p1, p2], R3⟩
theorem den_app {o a : X} {dO da : DX} (B : DenX n o dO) (A : DenX n a da) : DenX (n + 1) (.app o a) (.app dO da) := up fun m hm fm H H1 L v R h => by
  obtain ⟨v1, H2, e1, h⟩ := gB_ne (x := dO fm H) h nofun
  obtain ⟨j, rfl, h⟩ := vRef_ne h nofun
  obtain ⟨L2, p1, R2⟩ := B m hm R e1
  obtain ⟨ys, e2, h⟩ := oB_ne (x := getG H2 j) h nofun
  obtain ⟨v2, H3, e3, h⟩ := gB_ne (x := da fm H2) h nofun
  obtain ⟨L3, p2, R3⟩ := A m hm R2 e3
  obtain ⟨xs, e4, h⟩ := oB_ne (x := getG H3 j) h nofun
  obtain ⟨e5, h⟩ := bB_ne h nofun
  obtain ⟨e6, h⟩ := bB_ne h nofun
  rw [lsm_eq] at e6
  cases h
  rw [lapp_eq]
  exact ⟨_, by simp only [run_ev, evF, p1, R2.get e2, p2, R3.get e4, e5, e6, Bool.and_true], R3.set _ (R3.lt' e4)⟩
theorem den_ext {o a : X} {dO da : DX} (B : DenX n o dO) (A : DenX n a da) : DenX (n + 1) (.ext o a) (.ext dO da) := up fun m hm fm H H1 L v R h => by
  obtain ⟨v1, H2, e1, h⟩ := gB_ne (x := dO fm H) h nofun
  obtain ⟨j, rfl, h⟩ := vRef_ne h nofun
  obtain ⟨L2, p1, R2⟩ := B m hm R e1
  obtain ⟨zs, e2, h⟩ := oB_ne (x := getG H2 j) h nofun
  obtain ⟨v2, H3, e3, h⟩ := gB_ne (x := da fm H2) h nofun
  obtain ⟨L3, p2, R3⟩ := A m hm R2 e3
  obtain ⟨i, rfl, h⟩ := vRef_ne h nofun
  obtain ⟨xs, e4, h⟩ := oB_ne (x := getG H3 j) h nofun
  obtain ⟨ys, e7, h⟩ := oB_ne (x := getG H3 i) h nofun
  obtain ⟨e5, h⟩ := bB_ne h nofun
  obtain ⟨e6, h⟩ := bB_ne h nofun
  rw [addLen] at e6
  cases h
  rw [lapp_eq]
  exact ⟨_, by simp only [run_ev, evF, p1, R2.get e2, p2, R3.get e4, R3.get e7, e5, e6, Bool.and_true], R3.set _ (R3.lt' e4)⟩
theorem den_rev {a : X} {da : DX} (A : DenX n a da) : DenX (n + 1) (.rev a) (.rev da) := up fun m hm fm H H1 L v R h => by
  obtain ⟨v1, H2, e1, h⟩ := gB_ne (x := da fm H) h nofun
  obtain ⟨j, rfl, h⟩ := vRef_ne h nofun
  obtain ⟨L2, p1, R2⟩ := A m hm R e1
  obtain ⟨xs, e2, h⟩ := oB_ne h nofun
  obtain ⟨e5, h⟩ := bB_ne h nofun
  obtain ⟨e6, h⟩ := bB_ne h nofun
  rw [lsm_eq] at e6
  cases h
  rw [lrev_eq]
  exact ⟨_, by simp only [run_ev, evF, p1, R2.get e2, e5, e6, Bool.and_true], R2.set _ (R2.lt' e2)⟩
theorem den_srt {a : X} {da : DX} (A : DenX n a da) : DenX (n + 1) (.srt a) (.srt da) := up fun m hm fm H H1 L v R h => by
  obtain ⟨v1, H2, e1, h⟩ := gB_ne (x := da fm H) h nofun
  obtain ⟨j, rfl, h⟩ := vRef_ne h nofun
  obtain ⟨L2, p1, R2⟩ := A m hm R e1
  obtain ⟨xs, e2, h⟩ := oB_ne h nofun
  obtain ⟨ps, e3, h⟩ := oB_ne h nofun
  obtain ⟨e4, h⟩ := bB_ne h nofun
  obtain ⟨e5, h⟩ := bB_ne h nofun
  obtain ⟨e6, h⟩ := bB_ne h nofun
  obtain ⟨p, e7, h⟩ := oB_ne h nofun
  rw [llen_eq] at e5 e6
  cases h
  exact ⟨_, by simp only [run_ev, evF, p1, R2.get e2, pairs_sim R2 e3, e4, e5, e6, Bool.and_true, e7], R2.set _ (R2.lt' e2)⟩

theorem den_rng1 {a : X} {da : DX} (A : DenX n a da) : DenI n (.rng [a]) (.rng [da]) := fun m hm fm H H1 L v R h => by
  obtain ⟨v1, H2, e1, h⟩ := gB_ne (x := da fm H) h nofun
  obtain ⟨i, rfl, h⟩ := vInt_ne h nofun
  obtain ⟨j, rfl, h⟩ := iNat_ne h nofun
  obtain ⟨L2, p1, R2⟩ := A m hm R e1
  obtain ⟨e2, h⟩ := bB_ne (b := Nat.ble j 64) h nofun
  cases h
  refine ⟨L2, ?_, R2⟩
  simp only [iterOf, p1]
  rw [show (decide ((0 : Int) ≤ Int.ofNat j) && decide (Int.ofNat j ≤ 64)) = true from by
    simp only [Bool.and_eq_true, decide_eq_true_eq]
    have := Nat.le_of_ble_eq_true e2
    refine ⟨Int.natCast_nonneg j, ?_⟩
    show (j : Int) ≤ 64
    omega]
  rfl
theorem den_rng2 {a b : X} {da db : DX} (A : DenX n a da) (B : DenX n b db) : DenI n (.rng [a, b]) (.rng [da, db]) := fun m hm fm H H1 L v R h => by
  obtain ⟨v1, H2, e1, h⟩ := gB_ne (x := da fm H) h nofun
  obtain ⟨v2, H3, e2, h⟩ := gB_ne (x := db fm H2) h nofun
  obtain ⟨L2, p1, R2⟩ := A m hm R e1
  obtain ⟨L3, p2, R3⟩ := B m hm R2 e2
  replace h : rng2 v1 v2 H3 = .ok v H1 := h
  obtain ⟨i, rfl, h1⟩ := vInt_ne h nofun
  obtain ⟨j, rfl, h2⟩ := iNat_ne h1 nofun
  obtain ⟨i', rfl, h3⟩ := vInt_ne h2 nofun
  obtain ⟨j', rfl, h4⟩ := iNat_ne h3 nofun
  obtain ⟨e3, h5⟩ := bB_ne (b := Nat.ble j j') h4 nofun
  obtain ⟨e4, h6⟩ := bB_ne (b := Nat.ble j' 64) h5 nofun
  cases h6
  refine ⟨L3, ?_, R3⟩
  have a1 := Nat.le_of_ble_eq_true e3
  have a2 := Nat.le_of_ble_eq_true e4
  simp only [iterOf, p1, p2]
  rw [show (decide ((0 : Int) ≤ Int.ofNat j) && decide (Int.ofNat j ≤ Int.ofNat j') && decide (Int.ofNat j' ≤ 64)) = true from by
    simp only [Bool.and_eq_true, decide_eq_true_eq]
    refine ⟨⟨Int.natCast_nonneg j, ?_⟩, ?_⟩
    · show (j : Int) ≤ (j' : Int)
      omega
    · show (j' : Int) ≤ 64
      omega]
  rw [show (Int.ofNat j' - Int.ofNat j).toNat = Nat.sub j' j from by
    show ((j' : Int) - (j : Int)).toNat = j' - j
    omega]
theorem den_enu {a : X} {da : DX} (A : DenX n a da) : DenI n (.enu a) (.enu da) := fun m hm fm H H1 L v R h => by
  obtain ⟨v1, H2, e1, h⟩ := gB_ne (x := da fm H) h nofun
  obtain ⟨i, rfl, h⟩ := vRef_ne h nofun
  obtain ⟨L2, p1, R2⟩ := A m hm R e1
  obtain ⟨xs, e2, h⟩ := oB_ne (x := getG H2 i) h nofun
  cases h
  exact ⟨L2, by simp only [iterOf, p1, R2.get e2], R2⟩
theorem den_iloc {i : Nat} {d : DX} (A : DenX n (.loc i) d) : DenI n (.loc i) (iloc d) := fun m hm fm H H1 L v R h => by
  obtain ⟨v1, H2, e1, h⟩ := gB_ne (x := d fm H) h nofun
  obtain ⟨j, rfl, h⟩ := vRef_ne h nofun
  obtain ⟨L2, p1, R2⟩ := A m hm R e1
  obtain ⟨xs, e2, h⟩ := oB_ne (x := getG H2 j) h nofun
  cases h
  exact ⟨L2, by simp only [iterOf, p1, R2.get e2], R2⟩
theorem den_idead : DenI n .dead .dead := fun m hm fm H H1 L v R h => by cases h
theorem den_sdead : DenS n .dead .dead := fun m hm fm H L t R h ne => absurd h.symm ne
theorem den_rais : DenS n .rais .rais := fun m hm fm H L t R h ne => absurd h.symm ne

theorem for_sim {m : Nat} (hm : n ≤ m) {tg : List Tg} {pair : Bool} {p : DP} {body : List S} {db : List DS} (D : DenP tg pair p) (B : DenSL n body db) : ∀ (c : Nat) {it : It} {fm : Fm} {H : Hp} {L : List O} {t : Rs}, Rp H L → forG p (stLG db) c it fm H = t → t ≠ .er →
    Out t (forN (run k.default.K PP m) tg pair body c it fm L)
  | 0, it, fm, H, L, t, R, h, ne => absurd h.symm ne
  | c + 1, it, fm, H, L, t, R, h, ne => by
    replace h : nxB (nextG H it) .er (.nx fm H) (fun v it' => gB (p fm H v none) .er fun fm1 H1 => sB (stLG db fm1 H1) (forG p (stLG db) c it'))
      (fun v u it' => gB (p fm H v (some u)) .er fun fm1 H1 => sB (stLG db fm1 H1) (forG p (stLG db) c it')) = t := h
    have tail : ∀ {it' : It} {fm1 : Fm} {H1 : Hp} {L1 : List O}, Rp H1 L1 → sB (stLG db fm1 H1) (forG p (stLG db) c it') = t →
        Out t (match stL (run k.default.K PP m) fm1 L1 body with
        | some (.next, fm2, H2) => forN (run k.default.K PP m) tg pair body c it' fm2 H2
        | some (.ret v, fm2, H2) => some (.ret v, fm2, H2)
        | none => none) := fun {it' fm1 H1 L1} R1 h => by
      cases e : stLG db fm1 H1 with
      | er => rw [e] at h; exact absurd h.symm ne
      | nx fm2 H2 =>
        rw [e] at h
        obtain ⟨L2, p2, R2⟩ := stL_sim hm B R1 e nofun
        rw [p2]
        exact for_sim hm D B c R2 h ne
      | rt v fm2 H2 =>
        rw [e] at h
        obtain ⟨L2, p2, R2⟩ := stL_sim hm B R1 e nofun
        subst h
        rw [p2]
        exact ⟨L2, rfl, R2⟩
    cases e : nextG H it with
    | er => rw [e] at h; exact absurd h.symm ne
    | fin =>
      rw [e] at h
      obtain ⟨it', q⟩ := next_fin R e
      subst h
      exact ⟨L, by simp only [forN, q], R⟩
    | one v it' =>
      rw [e] at h
      obtain ⟨fm1, H1, e1, h⟩ := gB_ne (x := p fm H v none) h ne.symm
      obtain ⟨L1, p1, R1⟩ := D R e1
      simp only [forN, next_one R e, p1]
      exact tail R1 h
    | two v u it' =>
      rw [e] at h
      obtain ⟨fm1, H1, e1, h⟩ := gB_ne (x := p fm H v (some u)) h ne.symm
      obtain ⟨L1, p1, R1⟩ := D R e1
      simp only [forN, next_two R e, p1]
      exact tail R1 h
theorem whl_sim {m : Nat} (hm : n ≤ m) {x : X} {dt : DT} {body : List S} {db : List DS} (T : DenT n x dt) (B : DenSL n body db) : ∀ (c : Nat) {fm : Fm} {H : Hp} {L : List O} {t : Rs}, Rp H L → whlG dt (stLG db) c fm H = t → t ≠ .er →
    Out t (whlN (run k.default.K PP m) x body c fm L)
  | 0, fm, H, L, t, R, h, ne => absurd h.symm ne
  | c + 1, fm, H, L, t, R, h, ne => by
    obtain ⟨b, H1, e1, h⟩ := gB_ne (x := dt fm H) h ne.symm
    obtain ⟨L1, p1, R1⟩ := T m hm R e1
    simp only [whlN, p1]
    cases b with
    | false => subst h; exact ⟨L1, rfl, R1⟩
    | true =>
      replace h : sB (stLG db fm H1) (whlG dt (stLG db) c) = t := h
      cases e : stLG db fm H1 with
      | er => rw [e] at h; exact absurd h.symm ne
      | nx fm2 H2 =>
        rw [e] at h
        obtain ⟨L2, p2, R2⟩ := stL_sim hm B R1 e nofun
        simp only [p2]
        exact whl_sim hm T B c R2 h ne
      | rt v fm2 H2 =>
        rw [e] at h
        obtain ⟨L2, p2, R2⟩ := stL_sim hm B R1 e nofun
        subst h
        simp only [p2]
        exact ⟨L2, rfl, R2⟩
theorem comp_sim {m : Nat} (hm : n ≤ m) {tg : List Tg} {pair : Bool} {p : DP} {ifs : List X} {di : List DT} {elt : X} {de : DX} (D : DenP tg pair p) (F : DenTL n ifs di) (E : DenX n elt de) : ∀ (c : Nat) {it : It} {fm : Fm} {acc : List V} {H H1 : Hp} {L : List O} {ys : List V}, acc.length + c ≤ 1000 → Rp H L → compG p (allG true di) de c it fm acc H = .ok ys H1 →
    ∃ L1, compN (run k.default.K PP m) tg pair ifs elt c it fm acc.reverse L = some (ys, L1) ∧ Rp H1 L1
  | 0, it, fm, acc, H, H1, L, ys, hc, R, h => by cases h
  | c + 1, it, fm, acc, H, H1, L, ys, hc, R, h => by
    replace h : nxB (nextG H it) .er (.ok (lrev acc) H) (fun v it' => gB (p fm H v none) .er fun fm1 H1 => compS (allG true di) de (compG p (allG true di) de c it') acc fm1 H1)
      (fun v u it' => gB (p fm H v (some u)) .er fun fm1 H1 => compS (allG true di) de (compG p (allG true di) de c it') acc fm1 H1) = .ok ys H1 := h
    have tail : ∀ {it' : It} {fm1 : Fm} {H2 : Hp} {L1 : List O}, Rp H2 L1 → compS (allG true di) de (compG p (allG true di) de c it') acc fm1 H2 = .ok ys H1 →
        ∃ L2, (match allT (run k.default.K PP m) fm1 true L1 ifs with
        | some (true, H2) => match (run k.default.K PP m).ev fm1 H2 elt with
          | some (y, H3) => match Nat.ble acc.reverse.length 1000 with
            | true => compN (run k.default.K PP m) tg pair ifs elt c it' fm1 (acc.reverse ++ [y]) H3
            | false => none
          | none => none
        | some (false, H2) => compN (run k.default.K PP m) tg pair ifs elt c it' fm1 acc.reverse H2
        | none => none) = some (ys, L2) ∧ Rp H1 L2 := fun {it' fm1 H2 L1} R1 h => by
      obtain ⟨b, H3, e1, h⟩ := gB_ne (x := allG true di fm1 H2) h nofun
      obtain ⟨L3, p1, R3⟩ := allT_sim hm F R1 e1
      simp only [p1]
      cases b with
      | false => exact comp_sim hm D F E c (by omega) R3 h
      | true =>
        obtain ⟨y, H4, e2, h⟩ := gB_ne (x := de fm1 H3) h nofun
        obtain ⟨L4, p2, R4⟩ := E m hm R3 e2
        have e3 : Nat.ble acc.reverse.length 1000 = true := Nat.ble_eq_true_of_le (by rw [List.length_reverse]; omega)
        simp only [p2, e3]
        rw [← List.reverse_cons]
        exact comp_sim hm D F E c (by rw [List.length_cons]; omega) R4 h
    cases e : nextG H it with
    | er => rw [e] at h; cases h
    | fin =>
      rw [e] at h
      obtain ⟨it', q⟩ := next_fin R e
      cases h
      rw [lrev_eq]
      exact ⟨L, by simp only [compN, q], R⟩
    | one v it' =>
      rw [e] at h
      obtain ⟨fm1, H2, e1, h⟩ := gB_ne (x := p fm H v none) h nofun
      obtain ⟨L1, p1, R1⟩ := D R e1
      simp only [compN, next_one R e, p1]
      exact tail R1 h
    | two v u it' =>
      rw [e] at h
      obtain ⟨fm1, H2, e1, h⟩ := gB_ne (x := p fm H v (some u)) h nofun
      obtain ⟨L1, p1, R1⟩ := D R e1
      simp only [compN, next_two R e, p1]
      exact tail R1 h
theorem den_comp {elt it : X} {de : DX} {dit : DI} {tg : List Tg} {pair : Bool} {p : DP} {ifs : List X} {di : List DT} {sl : List CS} (D : DenP tg pair p) (I : DenI n it dit) (F : DenTL n ifs di) (E : DenX n elt de) : DenX (n + 1) (.comp elt tg pair it ifs sl) (.comp de p dit di sl) := up fun m hm fm H H1 L v R h => by
  obtain ⟨I1, H2, e1, h⟩ := gB_ne (x := dit fm H) h nofun
  obtain ⟨L2, p1, R2⟩ := I m hm R e1
  obtain ⟨s, e2, h⟩ := oB_ne (x := mkCG fm sl) h nofun
  obtain ⟨ys, H3, e3, h⟩ := gB_ne (x := compG p (allG true di) de 70 I1 ⟨s, H2.n⟩ [] H2) h nofun
  rw [R2.n] at e3
  obtain ⟨L3, p3, R3⟩ := comp_sim hm D F E 70 (by decide) R2 e3
  rw [List.reverse_nil] at p3
  obtain ⟨rfl, R4⟩ := newL_ok R3 h
  exact ⟨_, by simp only [run_ev, evF, p1, mkC_sim fm sl e2, p3], R4⟩
theorem den_call {f : Nat} {fn : FnD} {d : DF} {args : List X} {ds : List DX} (hf : PP[f]? = some fn) (F : DenF n fn d) (A : DenL n args ds) : DenX (n + 1) (.call f args) (.call d ds) := up fun m hm fm H H1 L v R h => by
  obtain ⟨vs, H2, e1, h⟩ := gB_ne (x := evLG ds fm H) h nofun
  obtain ⟨L2, p1, R2⟩ := evL_sim hm A R e1
  obtain ⟨e2, h⟩ := bB_ne (b := Nat.beq (Nat.add (llen vs) (llen d.dfl)) d.ar) h nofun
  rw [addLen, F.ar, F.dfl] at e2
  rw [lapp_eq, F.sl, F.dfl] at h
  obtain ⟨q1, q2⟩ := mkF_sim (vs ++ fn.dfl) fn.sl R2
  replace h : sR (stLG d.body ⟨(mkFG (vs ++ fn.dfl) fn.sl H2).s, H2.n⟩ (mkFG (vs ++ fn.dfl) fn.sl H2).H) = .ok v H1 := h
  rw [q1, R2.n] at h
  cases e : stLG d.body ⟨(mkF (vs ++ fn.dfl) fn.sl L2).1, L2.length⟩ (mkFG (vs ++ fn.dfl) fn.sl H2).H with
  | er => rw [e] at h; cases h
  | nx _ _ => rw [e] at h; cases h
  | rt w fm3 H3 =>
    rw [e] at h
    cases h
    obtain ⟨L3, p3, R3⟩ := stL_sim hm F.body q2 e nofun
    exact ⟨L3, by simp only [run_ev, evF, p1, hf, e2, p3], R3⟩

theorem den_pl {x : X} {d : DX} (A : DenX n x d) {m : Nat} (hm : n ≤ m) {fm : Fm} {H H1 : Hp} {L : List O} {v : Bool} (R : Rp H L) (h : plG d fm H = .ok v H1) : ∃ L1, plT (run k.default.K PP m) fm L x = some (v, L1) ∧ Rp H1 L1 := by
  obtain ⟨v1, H2, e1, h⟩ := gB_ne (x := d fm H) h nofun
  obtain ⟨L2, p1, R2⟩ := A m hm R e1
  obtain ⟨b, e2, h⟩ := oB_ne h nofun
  cases h
  exact ⟨L2, by simp only [plT, p1, tru_sim R2 e2], R2⟩
theorem den_tloc {i : Nat} {d : DX} (A : DenX n (.loc i) d) : DenT (n + 1) (.loc i) (plG d) := up fun m hm fm H H1 L v R h => by
  obtain ⟨L2, p1, R2⟩ := den_pl A hm R h
  exact ⟨L2, by simp only [run_ts, tsF, p1], R2⟩
theorem den_tisi {T : String} {a : X} {da : DX} (A : DenX n a da) : DenT (n + 2) (.isi T a) (.isi T da) := up fun m hm fm H H1 L v R h => by
  obtain ⟨L2, p1, R2⟩ := den_pl (den_isi A) hm R h
  exact ⟨L2, by simp only [run_ts, tsF, p1], R2⟩
theorem den_tcmp {op : Cm} {a b : X} {da db : DX} (A : DenX n a da) (B : DenX n b db) : DenT (n + 1) (.cmp op a b) (.cmp op da db) := up fun m hm fm H H1 L v R h => by
  obtain ⟨v1, H2, e1, h⟩ := gB_ne (x := da fm H) h nofun
  obtain ⟨L2, p1, R2⟩ := A m hm R e1
  obtain ⟨v2, H3, e2, h⟩ := gB_ne (x := db fm H2) h nofun
  obtain ⟨L3, p2, R3⟩ := B m hm R2 e2
  obtain ⟨c, e3, h⟩ := oB_ne h nofun
  cases h
  exact ⟨L3, by simp only [run_ts, tsF, p1, p2, cmp_sim R3 e3], R3⟩
theorem den_tbop {isAnd : Bool} {l : List X} {dl : List DT} (A : DenTL n l dl) : DenT (n + 1) (.bop isAnd l) (.bop isAnd dl) := up fun m hm fm H H1 L v R h => by
  obtain ⟨L2, p1, R2⟩ := allT_sim hm A R h
  exact ⟨L2, by simp only [run_ts, tsF, p1], R2⟩
theorem den_tinv {a : X} {da : DT} (A : DenT n a da) : DenT (n + 1) (.inv a) (.inv da) := up fun m hm fm H H1 L v R h => by
  obtain ⟨b, H2, e1, h⟩ := gB_ne (x := da fm H) h nofun
  obtain ⟨L2, p1, R2⟩ := A m hm R e1
  cases h
  exact ⟨L2, by simp only [run_ts, tsF, p1]; cases b <;> rfl, R2⟩

theorem den_asg {tg : Tg} {d : DTg} {x : X} {dx : DX} (D : DenTg tg d) (A : DenX n x dx) : DenS (n + 1) (.asg tg x) (.asg d dx) := up fun m hm fm H L t R h ne => by
  obtain ⟨v, H1, e1, h⟩ := gB_ne (x := dx fm H) h ne.symm
  obtain ⟨L1, p1, R1⟩ := A m hm R e1
  obtain ⟨fm2, H2, e2, h⟩ := gB_ne (x := d fm H1 v) h ne.symm
  obtain ⟨L2, p2, R2⟩ := D R1 e2
  subst h
  exact ⟨L2, by simp only [run_st, stF, p1, p2], R2⟩
theorem den_asgT {ts : List Tg} {ds : List DTg} {x : X} {dx : DX} (D : F2 DenTg ts ds) (A : DenX n x dx) : DenS (n + 1) (.asgT ts x) (.asgT ds dx) := up fun m hm fm H L t R h ne => by
  obtain ⟨v, H1, e1, h⟩ := gB_ne (x := dx fm H) h ne.symm
  obtain ⟨L1, p1, R1⟩ := A m hm R e1
  obtain ⟨vs, e3, h⟩ := oB_ne (x := seqVG H1 v) h ne.symm
  obtain ⟨fm2, H2, e2, h⟩ := gB_ne (x := putsG ds fm H1 vs) h ne.symm
  obtain ⟨L2, p2, R2⟩ := puts_sim D R1 e2
  subst h
  exact ⟨L2, by simp only [run_st, stF, p1, seqV_sim R1 e3, p2], R2⟩
theorem den_asgW {ts : List Tg} {ds : List DTg} {x : X} {dx : DX} (D : F2 DenTg ts ds) (A : DenX n x dx) : DenS (n + 1) (.asgW ts x) (.asgW ds dx) := up fun m hm fm H L t R h ne => by
  obtain ⟨v, H1, e1, h⟩ := gB_ne (x := dx fm H) h ne.symm
  obtain ⟨L1, p1, R1⟩ := A m hm R e1
  obtain ⟨vs, e3, h⟩ := oB_ne (x := seqVG H1 v) h ne.symm
  obtain ⟨e4, h⟩ := bB_ne h ne.symm
  rw [llen_eq, llen_eq, ← D.len] at e4
  rw [lrev_eq, lrev_eq] at h
  obtain ⟨fm2, H2, e2, h⟩ := gB_ne (x := putsG ds.reverse fm H1 vs.reverse) h ne.symm
  obtain ⟨L2, p2, R2⟩ := puts_sim D.rev R1 e2
  subst h
  exact ⟨L2, by simp only [run_st, stF, p1, seqV_sim R1 e3, e4, p2], R2⟩
theorem den_sto {o i x : X} {dO di dx : DX} (O1 : DenX n o dO) (I : DenX n i di) (A : DenX n x dx) : DenS (n + 1) (.sto o i x) (.sto dO di dx) := up fun m hm fm H L t R h ne => by
  obtain ⟨v, H1, e1, h⟩ := gB_ne (x := dx fm H) h ne.symm
  obtain ⟨L1, p1, R1⟩ := A m hm R e1
  obtain ⟨ov, H2, e2, h⟩ := gB_ne (x := dO fm H1) h ne.symm
  obtain ⟨L2, p2, R2⟩ := O1 m hm R1 e2
  obtain ⟨iv, H3, e3, h⟩ := gB_ne (x := di fm H2) h ne.symm
  obtain ⟨L3, p3, R3⟩ := I m hm R2 e3
  obtain ⟨H4, e4, h⟩ := oB_ne (x := stoG fm H3 ov iv v) h ne.symm
  obtain ⟨L4, p4, R4⟩ := sto_sim R3 e4
  subst h
  exact ⟨L4, by simp only [run_st, stF, p1, p2, p3, p4], R4⟩
theorem den_aug {i : Nat} {g : DX} {d : DTg} {x : X} {dx : DX} (hg : ∀ fm H, g fm H = hdX H (nt i fm.sl)) (hd : ∀ fm H v, d fm H v = setK v .er i fm.sl fun l => .ok ⟨l, fm.fz⟩ H) (A : DenX n x dx) : DenS (n + 1) (.aug i x) (.aug g d dx) := up fun m hm fm H L t R h ne => by
  obtain ⟨w, H0, e1, h1⟩ := gB_ne (x := g fm H) h ne.symm
  rw [hg] at e1
  obtain ⟨e0, _⟩ := hdX_ok e1
  obtain ⟨a, ew, h2⟩ := vInt_ne h1 ne.symm
  subst ew
  obtain ⟨v, H1, e2, h3⟩ := gB_ne (x := dx fm H) h2 ne.symm
  obtain ⟨L1, p1, R1⟩ := A m hm R e2
  obtain ⟨b, ev, h4⟩ := vInt_ne h3 ne.symm
  subst ev
  obtain ⟨fm2, H2, e3, h5⟩ := gB_ne (x := d fm H1 (.int (iadd a b))) h4 ne.symm
  rw [hd] at e3
  obtain ⟨_, _, e4⟩ := setK_ok e3 nofun
  rw [iadd_eq] at e4
  cases e4
  subst h5
  exact ⟨L1, by simp only [run_st, stF, e0, p1, setSl], R1⟩
theorem den_augs {o i x : X} {dO di dx : DX} (O1 : DenX n o dO) (I : DenX n i di) (A : DenX n x dx) : DenS (n + 1) (.augs o i x) (.augs dO di dx) := up fun m hm fm H L t R h ne => by
  obtain ⟨ov, H2, e2, h⟩ := gB_ne (x := dO fm H) h ne.symm
  obtain ⟨L2, p2, R2⟩ := O1 m hm R e2
  obtain ⟨iv, H3, e3, h⟩ := gB_ne (x := di fm H2) h ne.symm
  obtain ⟨L3, p3, R3⟩ := I m hm R2 e3
  obtain ⟨w, e5, h1⟩ := oB_ne (x := subG H3 ov iv) h ne.symm
  obtain ⟨a, rfl, h2⟩ := vInt_ne h1 ne.symm
  obtain ⟨v, H1, e1, h3⟩ := gB_ne (x := dx fm H3) h2 ne.symm
  obtain ⟨L1, p1, R1⟩ := A m hm R3 e1
  obtain ⟨b, rfl, h4⟩ := vInt_ne h3 ne.symm
  rw [iadd_eq] at h4
  obtain ⟨H4, e4, h5⟩ := oB_ne (x := stoG fm H1 ov iv (.int (a + b))) h4 ne.symm
  obtain ⟨L4, p4, R4⟩ := sto_sim R1 e4
  subst h5
  exact ⟨L4, by simp only [run_st, stF, p1, p2, p3, subV_sim R3 e5, p4], R4⟩
theorem den_exp {x : X} {dx : DX} (A : DenX n x dx) : DenS (n + 1) (.exp x) (.exp dx) := up fun m hm fm H L t R h ne => by
  obtain ⟨v, H1, e1, h⟩ := gB_ne (x := dx fm H) h ne.symm
  obtain ⟨L1, p1, R1⟩ := A m hm R e1
  subst h
  exact ⟨L1, by simp only [run_st, stF, p1], R1⟩
theorem den_ret {x : X} {dx : DX} (A : DenX n x dx) : DenS (n + 1) (.ret x) (.ret dx) := up fun m hm fm H L t R h ne => by
  obtain ⟨v, H1, e1, h⟩ := gB_ne (x := dx fm H) h ne.symm
  obtain ⟨L1, p1, R1⟩ := A m hm R e1
  subst h
  exact ⟨L1, by simp only [run_st, stF, p1], R1⟩
theorem den_ifs {x : X} {dt : DT} {a b : List S} {da db : List DS} (T : DenT n x dt) (A : DenSL n a da) (B : DenSL n b db) : DenS (n + 1) (.ifs x a b) (.ifs dt da db) := up fun m hm fm H L t R h ne => by
  obtain ⟨c, H1, e1, h⟩ := gB_ne (x := dt fm H) h ne.symm
  obtain ⟨L1, p1, R1⟩ := T m hm R e1
  simp only [run_st, stF, p1]
  cases c with
  | true => exact stL_sim hm A R1 h ne
  | false => exact stL_sim hm B R1 h ne
theorem den_whl {x : X} {dt : DT} {b : List S} {db : List DS} (T : DenT n x dt) (B : DenSL n b db) : DenS (n + 1) (.whl x b) (.whl dt db) := up fun m hm fm H L t R h ne => by
  simp only [run_st, stF]
  exact whl_sim hm T B 70 R h ne
theorem den_fr {tg : List Tg} {pair : Bool} {p : DP} {it : X} {dit : DI} {b : List S} {db : List DS} (D : DenP tg pair p) (I : DenI n it dit) (B : DenSL n b db) : DenS (n + 1) (.fr tg pair it b) (.fr p dit db) := up fun m hm fm H L t R h ne => by
  obtain ⟨I1, H1, e1, h⟩ := gB_ne (x := dit fm H) h ne.symm
  obtain ⟨L1, p1, R1⟩ := I m hm R e1
  simp only [run_st, stF, p1]
  exact for_sim hm D B 70 R1 h ne
end
end
end Mine
end
section
open PySem
namespace Mine
set_option maxRecDepth 100000
set_option autoImplicit false
set_option linter.unusedVariables false
section
variable [k : Inhabited OrcW]
theorem DenF.mono {n n' : Nat} {fn : FnD} {d : DF} (F : DenF n fn d) (h : n ≤ n') : DenF n' fn d :=
  ⟨F.ar, F.sl, F.dfl, F2.mono (r := DenS n) (r' := DenS n') (fun a b x => fun m hm {_ _ _ _} R e ne => x m (Nat.le_trans h hm) R e ne) F.body⟩
theorem ds_mk : DenSL 8 b_mk g_mk := by
  repeat' first
    | exact den_cst _ | exact den_loc (fun _ _ => rfl) | exact den_cel (fun _ _ => rfl) | refine den_iloc ?_ | refine den_tloc ?_ | exact den_tgl (fun ⟨_, _⟩ _ _ => rfl) | exact den_tgc (fun ⟨_, _⟩ _ _ => rfl) | refine den_one ?_ | refine den_two ?_ ?_ | exact den_idead | exact den_sdead | exact den_rais | exact F2.nil | refine F2.cons ?_ ?_
    | refine den_bin ?_ ?_ | refine den_cmp ?_ ?_ | refine den_tcmp ?_ ?_ | refine den_sub ?_ ?_ | refine den_lst ?_ | refine den_tup ?_ | refine den_len ?_ | refine den_isi ?_ | refine den_tisi ?_
    | refine den_cut ?_ | refine den_cpy ?_ | refine den_join ?_ | refine den_pop0 ?_ | refine den_pop ?_ | refine den_app ?_ ?_ | refine den_ext ?_ ?_ | refine den_rev ?_ | refine den_srt ?_
    | refine den_neg ?_ | refine den_bop ?_ | refine den_tbop ?_ | refine den_tinv ?_ | refine den_ite ?_ ?_ ?_ | refine den_comp ?_ ?_ ?_ ?_ | refine den_rng1 ?_ | refine den_rng2 ?_ ?_ | refine den_enu ?_
    | refine den_asg ?_ ?_ | refine den_asgT ?_ ?_ | refine den_asgW ?_ ?_ | refine den_sto ?_ ?_ ?_ | refine den_aug (fun _ _ => rfl) (fun ⟨_, _⟩ _ _ => rfl) ?_ | refine den_augs ?_ ?_ ?_ | refine den_exp ?_ | refine den_ret ?_ | refine den_ifs ?_ ?_ ?_
    | refine den_whl ?_ ?_ | refine den_fr ?_ ?_ ?_
theorem df_mk : DenF 8 f_mk d_mk := ⟨rfl, rfl, rfl, ds_mk⟩
theorem ds_un : DenSL 8 b_un g_un := by
  repeat' first
    | exact den_cst _ | exact den_loc (fun _ _ => rfl) | exact den_cel (fun _ _ => rfl) | refine den_iloc ?_ | refine den_tloc ?_ | exact den_tgl (fun ⟨_, _⟩ _ _ => rfl) | exact den_tgc (fun ⟨_, _⟩ _ _ => rfl) | refine den_one ?_ | refine den_two ?_ ?_ | exact den_idead | exact den_sdead | exact den_rais | exact F2.nil | refine F2.cons ?_ ?_
    | refine den_bin ?_ ?_ | refine den_cmp ?_ ?_ | refine den_tcmp ?_ ?_ | refine den_sub ?_ ?_ | refine den_lst ?_ | refine den_tup ?_ | refine den_len ?_ | refine den_isi ?_ | refine den_tisi ?_
    | refine den_cut ?_ | refine den_cpy ?_ | refine den_join ?_ | refine den_pop0 ?_ | refine den_pop ?_ | refine den_app ?_ ?_ | refine den_ext ?_ ?_ | refine den_rev ?_ | refine den_srt ?_
    | refine den_neg ?_ | refine den_bop ?_ | refine den_tbop ?_ | refine den_tinv ?_ | refine den_ite ?_ ?_ ?_ | refine den_comp ?_ ?_ ?_ ?_ | refine den_rng1 ?_ | refine den_rng2 ?_ ?_ | refine den_enu ?_
    | refine den_asg ?_ ?_ | refine den_asgT ?_ ?_ | refine den_asgW ?_ ?_ | refine den_sto ?_ ?_ ?_ | refine den_aug (fun _ _ => rfl) (fun ⟨_, _⟩ _ _ => rfl) ?_ | refine den_augs ?_ ?_ ?_ | refine den_exp ?_ | refine den_ret ?_ | refine den_ifs ?_ ?_ ?_
    | refine den_whl ?_ ?_ | refine den_fr ?_ ?_ ?_
theorem df_un : DenF 8 f_un d_un := ⟨rfl, rfl, rfl, ds_un⟩
theorem ds_cw : DenSL 13 b_cw g_cw := by
  repeat' first
    | exact den_cst _ | exact den_loc (fun _ _ => rfl) | exact den_cel (fun _ _ => rfl) | refine den_iloc ?_ | refine den_tloc ?_ | exact den_tgl (fun ⟨_, _⟩ _ _ => rfl) | exact den_tgc (fun ⟨_, _⟩ _ _ => rfl) | refine den_one ?_ | refine den_two ?_ ?_ | exact den_idead | exact den_sdead | exact den_rais | exact F2.nil | refine F2.cons ?_ ?_
    | refine den_bin ?_ ?_ | refine den_cmp ?_ ?_ | refine den_tcmp ?_ ?_ | refine den_sub ?_ ?_ | refine den_lst ?_ | refine den_tup ?_ | refine den_len ?_ | refine den_isi ?_ | refine den_tisi ?_
    | refine den_cut ?_ | refine den_cpy ?_ | refine den_join ?_ | refine den_pop0 ?_ | refine den_pop ?_ | refine den_app ?_ ?_ | refine den_ext ?_ ?_ | refine den_rev ?_ | refine den_srt ?_
    | refine den_neg ?_ | refine den_bop ?_ | refine den_tbop ?_ | refine den_tinv ?_ | refine den_ite ?_ ?_ ?_ | refine den_comp ?_ ?_ ?_ ?_ | refine den_rng1 ?_ | refine den_rng2 ?_ ?_ | refine den_enu ?_
    | refine den_asg ?_ ?_ | refine den_asgT ?_ ?_ | refine den_asgW ?_ ?_ | refine den_sto ?_ ?_ ?_ | refine den_aug (fun _ _ => rfl) (fun ⟨_, _⟩ _ _ => rfl) ?_ | refine den_augs ?_ ?_ ?_ | refine den_exp ?_ | refine den_ret ?_ | refine den_ifs ?_ ?_ ?_
    | refine den_whl ?_ ?_ | refine den_fr ?_ ?_ ?_ | refine den_call (fn := f_un) rfl (df_un.mono (by decide)) ?_
theorem df_cw : DenF 13 f_cw d_cw := ⟨rfl, rfl, rfl, ds_cw⟩
theorem ds_wc : DenSL 11 b_wc g_wc := by
  repeat' first
    | exact den_cst _ | exact den_loc (fun _ _ => rfl) | exact den_cel (fun _ _ => rfl) | refine den_iloc ?_ | refine den_tloc ?_ | exact den_tgl (fun ⟨_, _⟩ _ _ => rfl) | exact den_tgc (fun ⟨_, _⟩ _ _ => rfl) | refine den_one ?_ | refine den_two ?_ ?_ | exact den_idead | exact den_sdead | exact den_rais | exact F2.nil | refine F2.cons ?_ ?_
    | refine den_bin ?_ ?_ | refine den_cmp ?_ ?_ | refine den_tcmp ?_ ?_ | refine den_sub ?_ ?_ | refine den_lst ?_ | refine den_tup ?_ | refine den_len ?_ | refine den_isi ?_ | refine den_tisi ?_
    | refine den_cut ?_ | refine den_cpy ?_ | refine den_join ?_ | refine den_pop0 ?_ | refine den_pop ?_ | refine den_app ?_ ?_ | refine den_ext ?_ ?_ | refine den_rev ?_ | refine den_srt ?_
    | refine den_neg ?_ | refine den_bop ?_ | refine den_tbop ?_ | refine den_tinv ?_ | refine den_ite ?_ ?_ ?_ | refine den_comp ?_ ?_ ?_ ?_ | refine den_rng1 ?_ | refine den_rng2 ?_ ?_ | refine den_enu ?_
    | refine den_asg ?_ ?_ | refine den_asgT ?_ ?_ | refine den_asgW ?_ ?_ | refine den_sto ?_ ?_ ?_ | refine den_aug (fun _ _ => rfl) (fun ⟨_, _⟩ _ _ => rfl) ?_ | refine den_augs ?_ ?_ ?_ | refine den_exp ?_ | refine den_ret ?_ | refine den_ifs ?_ ?_ ?_
    | refine den_whl ?_ ?_ | refine den_fr ?_ ?_ ?_ | refine den_call (fn := f_mk) rfl (df_mk.mono (by decide)) ?_
theorem df_wc : DenF 11 f_wc d_wc := ⟨rfl, rfl, rfl, ds_wc⟩
theorem ds_lr : DenSL 8 b_lr g_lr := by
  repeat' first
    | exact den_cst _ | exact den_loc (fun _ _ => rfl) | exact den_cel (fun _ _ => rfl) | refine den_iloc ?_ | refine den_tloc ?_ | exact den_tgl (fun ⟨_, _⟩ _ _ => rfl) | exact den_tgc (fun ⟨_, _⟩ _ _ => rfl) | refine den_one ?_ | refine den_two ?_ ?_ | exact den_idead | exact den_sdead | exact den_rais | exact F2.nil | refine F2.cons ?_ ?_
    | refine den_bin ?_ ?_ | refine den_cmp ?_ ?_ | refine den_tcmp ?_ ?_ | refine den_sub ?_ ?_ | refine den_lst ?_ | refine den_tup ?_ | refine den_len ?_ | refine den_isi ?_ | refine den_tisi ?_
    | refine den_cut ?_ | refine den_cpy ?_ | refine den_join ?_ | refine den_pop0 ?_ | refine den_pop ?_ | refine den_app ?_ ?_ | refine den_ext ?_ ?_ | refine den_rev ?_ | refine den_srt ?_
    | refine den_neg ?_ | refine den_bop ?_ | refine den_tbop ?_ | refine den_tinv ?_ | refine den_ite ?_ ?_ ?_ | refine den_comp ?_ ?_ ?_ ?_ | refine den_rng1 ?_ | refine den_rng2 ?_ ?_ | refine den_enu ?_
    | refine den_asg ?_ ?_ | refine den_asgT ?_ ?_ | refine den_asgW ?_ ?_ | refine den_sto ?_ ?_ ?_ | refine den_aug (fun _ _ => rfl) (fun ⟨_, _⟩ _ _ => rfl) ?_ | refine den_augs ?_ ?_ ?_ | refine den_exp ?_ | refine den_ret ?_ | refine den_ifs ?_ ?_ ?_
    | refine den_whl ?_ ?_ | refine den_fr ?_ ?_ ?_
theorem df_lr : DenF 8 f_lr d_lr := ⟨rfl, rfl, rfl, ds_lr⟩
theorem ds_lw : DenSL 9 b_lw g_lw := by
  repeat' first
    | exact den_cst _ | exact den_loc (fun _ _ => rfl) | exact den_cel (fun _ _ => rfl) | refine den_iloc ?_ | refine den_tloc ?_ | exact den_tgl (fun ⟨_, _⟩ _ _ => rfl) | exact den_tgc (fun ⟨_, _⟩ _ _ => rfl) | refine den_one ?_ | refine den_two ?_ ?_ | exact den_idead | exact den_sdead | exact den_rais | exact F2.nil | refine F2.cons ?_ ?_
    | refine den_bin ?_ ?_ | refine den_cmp ?_ ?_ | refine den_tcmp ?_ ?_ | refine den_sub ?_ ?_ | refine den_lst ?_ | refine den_tup ?_ | refine den_len ?_ | refine den_isi ?_ | refine den_tisi ?_
    | refine den_cut ?_ | refine den_cpy ?_ | refine den_join ?_ | refine den_pop0 ?_ | refine den_pop ?_ | refine den_app ?_ ?_ | refine den_ext ?_ ?_ | refine den_rev ?_ | refine den_srt ?_
    | refine den_neg ?_ | refine den_bop ?_ | refine den_tbop ?_ | refine den_tinv ?_ | refine den_ite ?_ ?_ ?_ | refine den_comp ?_ ?_ ?_ ?_ | refine den_rng1 ?_ | refine den_rng2 ?_ ?_ | refine den_enu ?_
    | refine den_asg ?_ ?_ | refine den_asgT ?_ ?_ | refine den_asgW ?_ ?_ | refine den_sto ?_ ?_ ?_ | refine den_aug (fun _ _ => rfl) (fun ⟨_, _⟩ _ _ => rfl) ?_ | refine den_augs ?_ ?_ ?_ | refine den_exp ?_ | refine den_ret ?_ | refine den_ifs ?_ ?_ ?_
    | refine den_whl ?_ ?_ | refine den_fr ?_ ?_ ?_
theorem df_lw : DenF 9 f_lw d_lw := ⟨rfl, rfl, rfl, ds_lw⟩
theorem ds_pre : DenSL 20 b_pre g_pre := by
  repeat' first
    | exact den_cst _ | exact den_loc (fun _ _ => rfl) | exact den_cel (fun _ _ => rfl) | refine den_iloc ?_ | refine den_tloc ?_ | exact den_tgl (fun ⟨_, _⟩ _ _ => rfl) | exact den_tgc (fun ⟨_, _⟩ _ _ => rfl) | refine den_one ?_ | refine den_two ?_ ?_ | exact den_idead | exact den_sdead | exact den_rais | exact F2.nil | refine F2.cons ?_ ?_
    | refine den_bin ?_ ?_ | refine den_cmp ?_ ?_ | refine den_tcmp ?_ ?_ | refine den_sub ?_ ?_ | refine den_lst ?_ | refine den_tup ?_ | refine den_len ?_ | refine den_isi ?_ | refine den_tisi ?_
    | refine den_cut ?_ | refine den_cpy ?_ | refine den_join ?_ | refine den_pop0 ?_ | refine den_pop ?_ | refine den_app ?_ ?_ | refine den_ext ?_ ?_ | refine den_rev ?_ | refine den_srt ?_
    | refine den_neg ?_ | refine den_bop ?_ | refine den_tbop ?_ | refine den_tinv ?_ | refine den_ite ?_ ?_ ?_ | refine den_comp ?_ ?_ ?_ ?_ | refine den_rng1 ?_ | refine den_rng2 ?_ ?_ | refine den_enu ?_
    | refine den_asg ?_ ?_ | refine den_asgT ?_ ?_ | refine den_asgW ?_ ?_ | refine den_sto ?_ ?_ ?_ | refine den_aug (fun _ _ => rfl) (fun ⟨_, _⟩ _ _ => rfl) ?_ | refine den_augs ?_ ?_ ?_ | refine den_exp ?_ | refine den_ret ?_ | refine den_ifs ?_ ?_ ?_
    | refine den_whl ?_ ?_ | refine den_fr ?_ ?_ ?_ | refine den_call (fn := f_mk) rfl (df_mk.mono (by decide)) ?_ | refine den_call (fn := f_un) rfl (df_un.mono (by decide)) ?_ | refine den_call (fn := f_cw) rfl (df_cw.mono (by decide)) ?_ | refine den_call (fn := f_lr) rfl (df_lr.mono (by decide)) ?_ | refine den_call (fn := f_lw) rfl (df_lw.mono (by decide)) ?_
theorem ds_cs : DenTL 20 b_cs g_cs := by
  repeat' first
    | exact den_cst _ | exact den_loc (fun _ _ => rfl) | exact den_cel (fun _ _ => rfl) | refine den_iloc ?_ | refine den_tloc ?_ | exact den_tgl (fun ⟨_, _⟩ _ _ => rfl) | exact den_tgc (fun ⟨_, _⟩ _ _ => rfl) | refine den_one ?_ | refine den_two ?_ ?_ | exact den_idead | exact den_sdead | exact den_rais | exact F2.nil | refine F2.cons ?_ ?_
    | refine den_bin ?_ ?_ | refine den_cmp ?_ ?_ | refine den_tcmp ?_ ?_ | refine den_sub ?_ ?_ | refine den_lst ?_ | refine den_tup ?_ | refine den_len ?_ | refine den_isi ?_ | refine den_tisi ?_
    | refine den_cut ?_ | refine den_cpy ?_ | refine den_join ?_ | refine den_pop0 ?_ | refine den_pop ?_ | refine den_app ?_ ?_ | refine den_ext ?_ ?_ | refine den_rev ?_ | refine den_srt ?_
    | refine den_neg ?_ | refine den_bop ?_ | refine den_tbop ?_ | refine den_tinv ?_ | refine den_ite ?_ ?_ ?_ | refine den_comp ?_ ?_ ?_ ?_ | refine den_rng1 ?_ | refine den_rng2 ?_ ?_ | refine den_enu ?_
    | refine den_asg ?_ ?_ | refine den_asgT ?_ ?_ | refine den_asgW ?_ ?_ | refine den_sto ?_ ?_ ?_ | refine den_aug (fun _ _ => rfl) (fun ⟨_, _⟩ _ _ => rfl) ?_ | refine den_augs ?_ ?_ ?_ | refine den_exp ?_ | refine den_ret ?_ | refine den_ifs ?_ ?_ ?_
    | refine den_whl ?_ ?_ | refine den_fr ?_ ?_ ?_
theorem ds_post : DenSL 20 b_post g_post := by
  repeat' first
    | exact den_cst _ | exact den_loc (fun _ _ => rfl) | exact den_cel (fun _ _ => rfl) | refine den_iloc ?_ | refine den_tloc ?_ | exact den_tgl (fun ⟨_, _⟩ _ _ => rfl) | exact den_tgc (fun ⟨_, _⟩ _ _ => rfl) | refine den_one ?_ | refine den_two ?_ ?_ | exact den_idead | exact den_sdead | exact den_rais | exact F2.nil | refine F2.cons ?_ ?_
    | refine den_bin ?_ ?_ | refine den_cmp ?_ ?_ | refine den_tcmp ?_ ?_ | refine den_sub ?_ ?_ | refine den_lst ?_ | refine den_tup ?_ | refine den_len ?_ | refine den_isi ?_ | refine den_tisi ?_
    | refine den_cut ?_ | refine den_cpy ?_ | refine den_join ?_ | refine den_pop0 ?_ | refine den_pop ?_ | refine den_app ?_ ?_ | refine den_ext ?_ ?_ | refine den_rev ?_ | refine den_srt ?_
    | refine den_neg ?_ | refine den_bop ?_ | refine den_tbop ?_ | refine den_tinv ?_ | refine den_ite ?_ ?_ ?_ | refine den_comp ?_ ?_ ?_ ?_ | refine den_rng1 ?_ | refine den_rng2 ?_ ?_ | refine den_enu ?_
    | refine den_asg ?_ ?_ | refine den_asgT ?_ ?_ | refine den_asgW ?_ ?_ | refine den_sto ?_ ?_ ?_ | refine den_aug (fun _ _ => rfl) (fun ⟨_, _⟩ _ _ => rfl) ?_ | refine den_augs ?_ ?_ ?_ | refine den_exp ?_ | refine den_ret ?_ | refine den_ifs ?_ ?_ ?_
    | refine den_whl ?_ ?_ | refine den_fr ?_ ?_ ?_ | refine den_call (fn := f_wc) rfl (df_wc.mono (by decide)) ?_
end
theorem tget_new : ∀ d b j, tget (tnew d b) j = none
  | 0, b, j => by
    show bB (Nat.beq b j) none none = none
    cases Nat.beq b j <;> rfl
  | d + 1, b, j => by
    show bB (Nat.ble (Nat.add b (Nat.pow 2 d)) j) (tget (tnew d b) j) (tget (tnew d (Nat.add b (Nat.pow 2 d))) j) = none
    rw [tget_new d, tget_new d]
    cases Nat.ble (Nat.add b (Nat.pow 2 d)) j <;> rfl
theorem heap0_sim : ∀ (l : List O) {H : Hp} {L : List O}, Rp H L → Rp (heap0 l H) (L ++ l)
  | [], H, L, R => by rw [List.append_nil]; exact R
  | o :: l, H, L, R => by
    have := heap0_sim l (R.push o)
    rw [List.append_assoc] at this
    exact this
theorem law_rp : Rp lawHG lawH := heap0_sim lawH (H := ⟨tnew 7 0, 0⟩) (L := []) ⟨rfl, fun j o h => by rw [show hget ⟨tnew 7 0, 0⟩ j = none from tget_new 7 0 j] at h; cases h⟩
theorem goodG_ok {x : Rs} (h : goodG x = true) : ∃ fm H, x = .rt (.bool true) fm H := by
  cases x with
  | rt v fm H =>
    cases v with
    | bool b => cases b with
      | true => exact ⟨fm, H, rfl⟩
      | false => cases h
    | _ => cases h
  | nx _ _ => cases h
  | er => cases h
theorem rowG_ok {r : Int} {bits : List Bool} (h : rowG r bits = true) : rowOk 20 r bits = true := by
  let k : Inhabited OrcW := ⟨⟨⟨some r, bits⟩⟩⟩
  replace h : rowB (@g_pre k) (g_cs) (@g_post k) = true := h
  unfold rowB at h
  cases e1 : stLG (@g_pre k) ⟨lawSl, 0⟩ lawHG with
  | er => rw [e1] at h; cases h
  | rt _ _ _ => rw [e1] at h; cases h
  | nx fm1 H1 =>
    rw [e1] at h
    obtain ⟨b, H2, e2, h⟩ := gB_ne (x := allG false (g_cs) fm1 H1) h nofun
    cases b with
    | true => cases h
    | false =>
      obtain ⟨fm3, H3, e3⟩ := goodG_ok (x := stLG (@g_post k) fm1 H2) h
      obtain ⟨L1, p1, R1⟩ := stL_sim (k := k) (Nat.le_refl 20) ds_pre law_rp e1 nofun
      obtain ⟨L2, p2, R2⟩ := allT_sim (k := k) (Nat.le_refl 20) ds_cs R1 e2
      obtain ⟨L3, p3, R3⟩ := stL_sim (k := k) (Nat.le_refl 20) ds_post R2 e3 nofun
      replace p1 : stL (run ⟨some r, bits⟩ PP 20) ⟨lawSl, 0⟩ lawH b_pre = some (.next, fm1, L1) := p1
      replace p2 : allT (run ⟨some r, bits⟩ PP 20) fm1 false L1 b_cs = some (false, L2) := p2
      replace p3 : stL (run ⟨some r, bits⟩ PP 20) fm1 L2 b_post = some (.ret (.bool true), fm3, L3) := p3
      simp only [rowOk, p1, p2, p3]
      rfl
end Mine
end
section
open PySem
set_option Elab.async false
namespace Mine
set_option maxRecDepth 100000
set_option autoImplicit false
set_option linter.unusedVariables false
noncomputable def allB (n : Nat) : (List Bool → Bool) → Bool := @Nat.rec (fun _ => (List Bool → Bool) → Bool) (fun f => f []) (fun _ ih f => bB (ih fun l => f (true :: l)) false (ih fun l => f (false :: l))) n
theorem allB_ok : ∀ (n : Nat) (f : List Bool → Bool), allB n f = true → ∀ l, l.length = n → f l = true
  | 0, f, h, l, e => by
    cases l with
    | nil => exact h
    | cons _ _ => cases e
  | n + 1, f, h, l, e => by
    obtain ⟨h1, h2⟩ := bB_ne (b := allB n fun l => f (true :: l)) h nofun
    cases l with
    | nil => cases e
    | cons b l =>
      have el : l.length = n := Nat.succ.inj e
      cases b with
      | true => exact allB_ok n _ h1 l el
      | false => exact allB_ok n _ h2 l el

theorem rows_0 : allB 0 (fun l => rowG 0 (l)) = true := by decide +kernel
theorem rows_1t : allB 0 (fun l => rowG 1 (true :: l)) = true := by decide +kernel
theorem rows_1f : allB 0 (fun l => rowG 1 (false :: l)) = true := by decide +kernel
theorem rows_2tt : allB 0 (fun l => rowG 2 (true :: true :: l)) = true := by decide +kernel
theorem rows_2tf : allB 0 (fun l => rowG 2 (true :: false :: l)) = true := by decide +kernel
theorem rows_2ft : allB 0 (fun l => rowG 2 (false :: true :: l)) = true := by decide +kernel
theorem rows_2ff : allB 0 (fun l => rowG 2 (false :: false :: l)) = true := by decide +kernel
theorem rows_3ttt : allB 0 (fun l => rowG 3 (true :: true :: true :: l)) = true := by decide +kernel
theorem rows_3ttf : allB 0 (fun l => rowG 3 (true :: true :: false :: l)) = true := by decide +kernel
theorem rows_3tft : allB 0 (fun l => rowG 3 (true :: false :: true :: l)) = true := by decide +kernel
theorem rows_3tff : allB 0 (fun l => rowG 3 (true :: false :: false :: l)) = true := by decide +kernel
theorem rows_3ftt : allB 0 (fun l => rowG 3 (false :: true :: true :: l)) = true := by decide +kernel
theorem rows_3ftf : allB 0 (fun l => rowG 3 (false :: true :: false :: l)) = true := by decide +kernel
theorem rows_3fft : allB 0 (fun l => rowG 3 (false :: false :: true :: l)) = true := by decide +kernel
theorem rows_3fff : allB 0 (fun l => rowG 3 (false :: false :: false :: l)) = true := by decide +kernel
theorem rows_4tttt : allB 0 (fun l => rowG 4 (true :: true :: true :: true :: l)) = true := by decide +kernel
theorem rows_4tttf : allB 0 (fun l => rowG 4 (true :: true :: true :: false :: l)) = true := by decide +kernel
theorem rows_4ttft : allB 0 (fun l => rowG 4 (true :: true :: false :: true :: l)) = true := by decide +kernel
theorem rows_4ttff : allB 0 (fun l => rowG 4 (true :: true :: false :: false :: l)) = true := by decide +kernel
theorem rows_4tftt : allB 0 (fun l => rowG 4 (true :: false :: true :: true :: l)) = true := by decide +kernel
theorem rows_4tftf : allB 0 (fun l => rowG 4 (true :: false :: true :: false :: l)) = true := by decide +kernel
theorem rows_4tfft : allB 0 (fun l => rowG 4 (true :: false :: false :: true :: l)) = true := by decide +kernel
theorem rows_4tfff : allB 0 (fun l => rowG 4 (true :: false :: false :: false :: l)) = true := by decide +kernel
theorem rows_4fttt : allB 0 (fun l => rowG 4 (false :: true :: true :: true :: l)) = true := by decide +kernel
theorem rows_4fttf : allB 0 (fun l => rowG 4 (false :: true :: true :: false :: l)) = true := by decide +kernel
theorem rows_4ftft : allB 0 (fun l => rowG 4 (false :: true :: false :: true :: l)) = true := by decide +kernel
theorem rows_4ftff : allB 0 (fun l => rowG 4 (false :: true :: false :: false :: l)) = true := by decide +kernel
theorem rows_4fftt : allB 0 (fun l => rowG 4 (false :: false :: true :: true :: l)) = true := by decide +kernel
theorem rows_4fftf : allB 0 (fun l => rowG 4 (false :: false :: true :: false :: l)) = true := by decide +kernel
theorem rows_4ffft : allB 0 (fun l => rowG 4 (false :: false :: false :: true :: l)) = true := by decide +kernel
theorem rows_4ffff : allB 0 (fun l => rowG 4 (false :: false :: false :: false :: l)) = true := by decide +kernel
theorem rows_5ttttt : allB 0 (fun l => rowG 5 (true :: true :: true :: true :: true :: l)) = true := by decide +kernel
theorem rows_5ttttf : allB 0 (fun l => rowG 5 (true :: true :: true :: true :: false :: l)) = true := by decide +kernel
theorem rows_5tttft : allB 0 (fun l => rowG 5 (true :: true :: true :: false :: true :: l)) = true := by decide +kernel
theorem rows_5tttff : allB 0 (fun l => rowG 5 (true :: true :: true :: false :: false :: l)) = true := by decide +kernel
theorem rows_5ttftt : allB 0 (fun l => rowG 5 (true :: true :: false :: true :: true :: l)) = true := by decide +kernel
theorem rows_5ttftf : allB 0 (fun l => rowG 5 (true :: true :: false :: true :: false :: l)) = true := by decide +kernel
theorem rows_5ttfft : allB 0 (fun l => rowG 5 (true :: true :: false :: false :: true :: l)) = true := by decide +kernel
theorem rows_5ttfff : allB 0 (fun l => rowG 5 (true :: true :: false :: false :: false :: l)) = true := by decide +kernel
theorem rows_5tfttt : allB 0 (fun l => rowG 5 (true :: false :: true :: true :: true :: l)) = true := by decide +kernel
theorem rows_5tfttf : allB 0 (fun l => rowG 5 (true :: false :: true :: true :: false :: l)) = true := by decide +kernel
theorem rows_5tftft : allB 0 (fun l => rowG 5 (true :: false :: true :: false :: true :: l)) = true := by decide +kernel
theorem rows_5tftff : allB 0 (fun l => rowG 5 (true :: false :: true :: false :: false :: l)) = true := by decide +kernel
theorem rows_5tfftt : allB 0 (fun l => rowG 5 (true :: false :: false :: true :: true :: l)) = true := by decide +kernel
theorem rows_5tfftf : allB 0 (fun l => rowG 5 (true :: false :: false :: true :: false :: l)) = true := by decide +kernel
theorem rows_5tffft : allB 0 (fun l => rowG 5 (true :: false :: false :: false :: true :: l)) = true := by decide +kernel
theorem rows_5tffff : allB 0 (fun l => rowG 5 (true :: false :: false :: false :: false :: l)) = true := by decide +kernel
theorem rows_5ftttt : allB 0 (fun l => rowG 5 (false :: true :: true :: true :: true :: l)) = true := by decide +kernel
theorem rows_5ftttf : allB 0 (fun l => rowG 5 (false :: true :: true :: true :: false :: l)) = true := by decide +kernel
theorem rows_5fttft : allB 0 (fun l => rowG 5 (false :: true :: true :: false :: true :: l)) = true := by decide +kernel
theorem rows_5fttff : allB 0 (fun l => rowG 5 (false :: true :: true :: false :: false :: l)) = true := by decide +kernel
theorem rows_5ftftt : allB 0 (fun l => rowG 5 (false :: true :: false :: true :: true :: l)) = true := by decide +kernel
theorem rows_5ftftf : allB 0 (fun l => rowG 5 (false :: true :: false :: true :: false :: l)) = true := by decide +kernel
theorem rows_5ftfft : allB 0 (fun l => rowG 5 (false :: true :: false :: false :: true :: l)) = true := by decide +kernel
theorem rows_5ftfff : allB 0 (fun l => rowG 5 (false :: true :: false :: false :: false :: l)) = true := by decide +kernel
theorem rows_5ffttt : allB 0 (fun l => rowG 5 (false :: false :: true :: true :: true :: l)) = true := by decide +kernel
theorem rows_5ffttf : allB 0 (fun l => rowG 5 (false :: false :: true :: true :: false :: l)) = true := by decide +kernel
theorem rows_5fftft : allB 0 (fun l => rowG 5 (false :: false :: true :: false :: true :: l)) = true := by decide +kernel
theorem rows_5fftff : allB 0 (fun l => rowG 5 (false :: false :: true :: false :: false :: l)) = true := by decide +kernel
theorem rows_5ffftt : allB 0 (fun l => rowG 5 (false :: false :: false :: true :: true :: l)) = true := by decide +kernel
theorem rows_5ffftf : allB 0 (fun l => rowG 5 (false :: false :: false :: true :: false :: l)) = true := by decide +kernel
theorem rows_5fffft : allB 0 (fun l => rowG 5 (false :: false :: false :: false :: true :: l)) = true := by decide +kernel
theorem rows_5fffff : allB 0 (fun l => rowG 5 (false :: false :: false :: false :: false :: l)) = true := by decide +kernel
theorem rows_6tttttt : allB 0 (fun l => rowG 6 (true :: true :: true :: true :: true :: true :: l)) = true := by decide +kernel
theorem rows_6tttttf : allB 0 (fun l => rowG 6 (true :: true :: true :: true :: true :: false :: l)) = true := by decide +kernel
theorem rows_6ttttft : allB 0 (fun l => rowG 6 (true :: true :: true :: true :: false :: true :: l)) = true := by decide +kernel
theorem rows_6ttttff : allB 0 (fun l => rowG 6 (true :: true :: true :: true :: false :: false :: l)) = true := by decide +kernel
theorem rows_6tttftt : allB 0 (fun l => rowG 6 (true :: true :: true :: false :: true :: true :: l)) = true := by decide +kernel
theorem rows_6tttftf : allB 0 (fun l => rowG 6 (true :: true :: true :: false :: true :: false :: l)) = true := by decide +kernel
theorem rows_6tttfft : allB 0 (fun l => rowG 6 (true :: true :: true :: false :: false :: true :: l)) = true := by decide +kernel
theorem rows_6tttfff : allB 0 (fun l => rowG 6 (true :: true :: true :: false :: false :: false :: l)) = true := by decide +kernel
theorem rows_6ttfttt : allB 0 (fun l => rowG 6 (true :: true :: false :: true :: true :: true :: l)) = true := by decide +kernel
theorem rows_6ttfttf : allB 0 (fun l => rowG 6 (true :: true :: false :: true :: true :: false :: l)) = true := by decide +kernel
theorem rows_6ttftft : allB 0 (fun l => rowG 6 (true :: true :: false :: true :: false :: true :: l)) = true := by decide +kernel
theorem rows_6ttftff : allB 0 (fun l => rowG 6 (true :: true :: false :: true :: false :: false :: l)) = true := by decide +kernel
theorem rows_6ttfftt : allB 0 (fun l => rowG 6 (true :: true :: false :: false :: true :: true :: l)) = true := by decide +kernel
theorem rows_6ttfftf : allB 0 (fun l => rowG 6 (true :: true :: false :: false :: true :: false :: l)) = true := by decide +kernel
theorem rows_6ttffft : allB 0 (fun l => rowG 6 (true :: true :: false :: false :: false :: true :: l)) = true := by decide +kernel
theorem rows_6ttffff : allB 0 (fun l => rowG 6 (true :: true :: false :: false :: false :: false :: l)) = true := by decide +kernel
theorem rows_6tftttt : allB 0 (fun l => rowG 6 (true :: false :: true :: true :: true :: true :: l)) = true := by decide +kernel
theorem rows_6tftttf : allB 0 (fun l => rowG 6 (true :: false :: true :: true :: true :: false :: l)) = true := by decide +kernel
theorem rows_6tfttft : allB 0 (fun l => rowG 6 (true :: false :: true :: true :: false :: true :: l)) = true := by decide +kernel
theorem rows_6tfttff : allB 0 (fun l => rowG 6 (true :: false :: true :: true :: false :: false :: l)) = true := by decide +kernel
theorem rows_6tftftt : allB 0 (fun l => rowG 6 (true :: false :: true :: false :: true :: true :: l)) = true := by decide +kernel
theorem rows_6tftftf : allB 0 (fun l => rowG 6 (true :: false :: true :: false :: true :: false :: l)) = true := by decide +kernel
theorem rows_6tftfft : allB 0 (fun l => rowG 6 (true :: false :: true :: false :: false :: true :: l)) = true := by decide +kernel
theorem rows_6tftfff : allB 0 (fun l => rowG 6 (true :: false :: true :: false :: false :: false :: l)) = true := by decide +kernel
theorem rows_6tffttt : allB 0 (fun l => rowG 6 (true :: false :: false :: true :: true :: true :: l)) = true := by decide +kernel
theorem rows_6tffttf : allB 0 (fun l => rowG 6 (true :: false :: false :: true :: true :: false :: l)) = true := by decide +kernel
theorem rows_6tfftft : allB 0 (fun l => rowG 6 (true :: false :: false :: true :: false :: true :: l)) = true := by decide +kernel
theorem rows_6tfftff : allB 0 (fun l => rowG 6 (true :: false :: false :: true :: false :: false :: l)) = true := by decide +kernel
theorem rows_6tffftt : allB 0 (fun l => rowG 6 (true :: false :: false :: false :: true :: true :: l)) = true := by decide +kernel
theorem rows_6tffftf : allB 0 (fun l => rowG 6 (true :: false :: false :: false :: true :: false :: l)) = true := by decide +kernel
theorem rows_6tfffft : allB 0 (fun l => rowG 6 (true :: false :: false :: false :: false :: true :: l)) = true := by decide +kernel
theorem rows_6tfffff : allB 0 (fun l => rowG 6 (true :: false :: false :: false :: false :: false :: l)) = true := by decide +kernel
theorem rows_6fttttt : allB 0 (fun l => rowG 6 (false :: true :: true :: true :: true :: true :: l)) = true := by decide +kernel
theorem rows_6fttttf : allB 0 (fun l => rowG 6 (false :: true :: true :: true :: true :: false :: l)) = true := by decide +kernel
theorem rows_6ftttft : allB 0 (fun l => rowG 6 (false :: true :: true :: true :: false :: true :: l)) = true := by decide +kernel
theorem rows_6ftttff : allB 0 (fun l => rowG 6 (false :: true :: true :: true :: false :: false :: l)) = true := by decide +kernel
theorem rows_6fttftt : allB 0 (fun l => rowG 6 (false :: true :: true :: false :: true :: true :: l)) = true := by decide +kernel
theorem rows_6fttftf : allB 0 (fun l => rowG 6 (false :: true :: true :: false :: true :: false :: l)) = true := by decide +kernel
theorem rows_6fttfft : allB 0 (fun l => rowG 6 (false :: true :: true :: false :: false :: true :: l)) = true := by decide +kernel
theorem rows_6fttfff : allB 0 (fun l => rowG 6 (false :: true :: true :: false :: false :: false :: l)) = true := by decide +kernel
theorem rows_6ftfttt : allB 0 (fun l => rowG 6 (false :: true :: false :: true :: true :: true :: l)) = true := by decide +kernel
theorem rows_6ftfttf : allB 0 (fun l => rowG 6 (false :: true :: false :: true :: true :: false :: l)) = true := by decide +kernel
theorem rows_6ftftft : allB 0 (fun l => rowG 6 (false :: true :: false :: true :: false :: true :: l)) = true := by decide +kernel
theorem rows_6ftftff : allB 0 (fun l => rowG 6 (false :: true :: false :: true :: false :: false :: l)) = true := by decide +kernel
theorem rows_6ftfftt : allB 0 (fun l => rowG 6 (false :: true :: false :: false :: true :: true :: l)) = true := by decide +kernel
theorem rows_6ftfftf : allB 0 (fun l => rowG 6 (false :: true :: false :: false :: true :: false :: l)) = true := by decide +kernel
theorem rows_6ftffft : allB 0 (fun l => rowG 6 (false :: true :: false :: false :: false :: true :: l)) = true := by decide +kernel
theorem rows_6ftffff : allB 0 (fun l => rowG 6 (false :: true :: false :: false :: false :: false :: l)) = true := by decide +kernel
theorem rows_6fftttt : allB 0 (fun l => rowG 6 (false :: false :: true :: true :: true :: true :: l)) = true := by decide +kernel
theorem rows_6fftttf : allB 0 (fun l => rowG 6 (false :: false :: true :: true :: true :: false :: l)) = true := by decide +kernel
theorem rows_6ffttft : allB 0 (fun l => rowG 6 (false :: false :: true :: true :: false :: true :: l)) = true := by decide +kernel
theorem rows_6ffttff : allB 0 (fun l => rowG 6 (false :: false :: true :: true :: false :: false :: l)) = true := by decide +kernel
theorem rows_6fftftt : allB 0 (fun l => rowG 6 (false :: false :: true :: false :: true :: true :: l)) = true := by decide +kernel
theorem rows_6fftftf : allB 0 (fun l => rowG 6 (false :: false :: true :: false :: true :: false :: l)) = true := by decide +kernel
theorem rows_6fftfft : allB 0 (fun l => rowG 6 (false :: false :: true :: false :: false :: true :: l)) = true := by decide +kernel
theorem rows_6fftfff : allB 0 (fun l => rowG 6 (false :: false :: true :: false :: false :: false :: l)) = true := by decide +kernel
theorem rows_6fffttt : allB 0 (fun l => rowG 6 (false :: false :: false :: true :: true :: true :: l)) = true := by decide +kernel
theorem rows_6fffttf : allB 0 (fun l => rowG 6 (false :: false :: false :: true :: true :: false :: l)) = true := by decide +kernel
theorem rows_6ffftft : allB 0 (fun l => rowG 6 (false :: false :: false :: true :: false :: true :: l)) = true := by decide +kernel
theorem rows_6ffftff : allB 0 (fun l => rowG 6 (false :: false :: false :: true :: false :: false :: l)) = true := by decide +kernel
theorem rows_6fffftt : allB 0 (fun l => rowG 6 (false :: false :: false :: false :: true :: true :: l)) = true := by decide +kernel
theorem rows_6fffftf : allB 0 (fun l => rowG 6 (false :: false :: false :: false :: true :: false :: l)) = true := by decide +kernel
theorem rows_6ffffft : allB 0 (fun l => rowG 6 (false :: false :: false :: false :: false :: true :: l)) = true := by decide +kernel
theorem rows_6ffffff : allB 0 (fun l => rowG 6 (false :: false :: false :: false :: false :: false :: l)) = true := by decide +kernel
theorem rows_7ttttttt : allB 0 (fun l => rowG 7 (true :: true :: true :: true :: true :: true :: true :: l)) = true := by decide +kernel
theorem rows_7ttttttf : allB 0 (fun l => rowG 7 (true :: true :: true :: true :: true :: true :: false :: l)) = true := by decide +kernel
theorem rows_7tttttft : allB 0 (fun l => rowG 7 (true :: true :: true :: true :: true :: false :: true :: l)) = true := by decide +kernel
theorem rows_7tttttff : allB 0 (fun l => rowG 7 (true :: true :: true :: true :: true :: false :: false :: l)) = true := by decide +kernel
theorem rows_7ttttftt : allB 0 (fun l => rowG 7 (true :: true :: true :: true :: false :: true :: true :: l)) = true := by decide +kernel
theorem rows_7ttttftf : allB 0 (fun l => rowG 7 (true :: true :: true :: true :: false :: true :: false :: l)) = true := by decide +kernel
theorem rows_7ttttfft : allB 0 (fun l => rowG 7 (true :: true :: true :: true :: false :: false :: true :: l)) = true := by decide +kernel
theorem rows_7ttttfff : allB 0 (fun l => rowG 7 (true :: true :: true :: true :: false :: false :: false :: l)) = true := by decide +kernel
theorem rows_7tttfttt : allB 0 (fun l => rowG 7 (true :: true :: true :: false :: true :: true :: true :: l)) = true := by decide +kernel
theorem rows_7tttfttf : allB 0 (fun l => rowG 7 (true :: true :: true :: false :: true :: true :: false :: l)) = true := by decide +kernel
theorem rows_7tttftft : allB 0 (fun l => rowG 7 (true :: true :: true :: false :: true :: false :: true :: l)) = true := by decide +kernel
theorem rows_7tttftff : allB 0 (fun l => rowG 7 (true :: true :: true :: false :: true :: false :: false :: l)) = true := by decide +kernel
theorem rows_7tttfftt : allB 0 (fun l => rowG 7 (true :: true :: true :: false :: false :: true :: true :: l)) = true := by decide +kernel
theorem rows_7tttfftf : allB 0 (fun l => rowG 7 (true :: true :: true :: false :: false :: true :: false :: l)) = true := by decide +kernel
theorem rows_7tttffft : allB 0 (fun l => rowG 7 (true :: true :: true :: false :: false :: false :: true :: l)) = true := by decide +kernel
theorem rows_7tttffff : allB 0 (fun l => rowG 7 (true :: true :: true :: false :: false :: false :: false :: l)) = true := by decide +kernel
theorem rows_7ttftttt : allB 0 (fun l => rowG 7 (true :: true :: false :: true :: true :: true :: true :: l)) = true := by decide +kernel
theorem rows_7ttftttf : allB 0 (fun l => rowG 7 (true :: true :: false :: true :: true :: true :: false :: l)) = true := by decide +kernel
theorem rows_7ttfttft : allB 0 (fun l => rowG 7 (true :: true :: false :: true :: true :: false :: true :: l)) = true := by decide +kernel
theorem rows_7ttfttff : allB 0 (fun l => rowG 7 (true :: true :: false :: true :: true :: false :: false :: l)) = true := by decide +kernel
theorem rows_7ttftftt : allB 0 (fun l => rowG 7 (true :: true :: false :: true :: false :: true :: true :: l)) = true := by decide +kernel
theorem rows_7ttftftf : allB 0 (fun l => rowG 7 (true :: true :: false :: true :: false :: true :: false :: l)) = true := by decide +kernel
theorem rows_7ttftfft : allB 0 (fun l => rowG 7 (true :: true :: false :: true :: false :: false :: true :: l)) = true := by decide +kernel
theorem rows_7ttftfff : allB 0 (fun l => rowG 7 (true :: true :: false :: true :: false :: false :: false :: l)) = true := by decide +kernel
theorem rows_7ttffttt : allB 0 (fun l => rowG 7 (true :: true :: false :: false :: true :: true :: true :: l)) = true := by decide +kernel
theorem rows_7ttffttf : allB 0 (fun l => rowG 7 (true :: true :: false :: false :: true :: true :: false :: l)) = true := by decide +kernel
theorem rows_7ttfftft : allB 0 (fun l => rowG 7 (true :: true :: false :: false :: true :: false :: true :: l)) = true := by decide +kernel
theorem rows_7ttfftff : allB 0 (fun l => rowG 7 (true :: true :: false :: false :: true :: false :: false :: l)) = true := by decide +kernel
theorem rows_7ttffftt : allB 0 (fun l => rowG 7 (true :: true :: false :: false :: false :: true :: true :: l)) = true := by decide +kernel
theorem rows_7ttffftf : allB 0 (fun l => rowG 7 (true :: true :: false :: false :: false :: true :: false :: l)) = true := by decide +kernel
theorem rows_7ttfffft : allB 0 (fun l => rowG 7 (true :: true :: false :: false :: false :: false :: true :: l)) = true := by decide +kernel
theorem rows_7ttfffff : allB 0 (fun l => rowG 7 (true :: true :: false :: false :: false :: false :: false :: l)) = true := by decide +kernel
theorem rows_7tfttttt : allB 0 (fun l => rowG 7 (true :: false :: true :: true :: true :: true :: true :: l)) = true := by decide +kernel
theorem rows_7tfttttf : allB 0 (fun l => rowG 7 (true :: false :: true :: true :: true :: true :: false :: l)) = true := by decide +kernel
theorem rows_7tftttft : allB 0 (fun l => rowG 7 (true :: false :: true :: true :: true :: false :: true :: l)) = true := by decide +kernel
theorem rows_7tftttff : allB 0 (fun l => rowG 7 (true :: false :: true :: true :: true :: false :: false :: l)) = true := by decide +kernel
theorem rows_7tfttftt : allB 0 (fun l => rowG 7 (true :: false :: true :: true :: false :: true :: true :: l)) = true := by decide +kernel
theorem rows_7tfttftf : allB 0 (fun l => rowG 7 (true :: false :: true :: true :: false :: true :: false :: l)) = true := by decide +kernel
theorem rows_7tfttfft : allB 0 (fun l => rowG 7 (true :: false :: true :: true :: false :: false :: true :: l)) = true := by decide +kernel
theorem rows_7tfttfff : allB 0 (fun l => rowG 7 (true :: false :: true :: true :: false :: false :: false :: l)) = true := by decide +kernel
theorem rows_7tftfttt : allB 0 (fun l => rowG 7 (true :: false :: true :: false :: true :: true :: true :: l)) = true := by decide +kernel
theorem rows_7tftfttf : allB 0 (fun l => rowG 7 (true :: false :: true :: false :: true :: true :: false :: l)) = true := by decide +kernel
theorem rows_7tftftft : allB 0 (fun l => rowG 7 (true :: false :: true :: false :: true :: false :: true :: l)) = true := by decide +kernel
theorem rows_7tftftff : allB 0 (fun l => rowG 7 (true :: false :: true :: false :: true :: false :: false :: l)) = true := by decide +kernel
theorem rows_7tftfftt : allB 0 (fun l => rowG 7 (true :: false :: true :: false :: false :: true :: true :: l)) = true := by decide +kernel
theorem rows_7tftfftf : allB 0 (fun l => rowG 7 (true :: false :: true :: false :: false :: true :: false :: l)) = true := by decide +kernel
theorem rows_7tftffft : allB 0 (fun l => rowG 7 (true :: false :: true :: false :: false :: false :: true :: l)) = true := by decide +kernel
theorem rows_7tftffff : allB 0 (fun l => rowG 7 (true :: false :: true :: false :: false :: false :: false :: l)) = true := by decide +kernel
theorem rows_7tfftttt : allB 0 (fun l => rowG 7 (true :: false :: false :: true :: true :: true :: true :: l)) = true := by decide +kernel
theorem rows_7tfftttf : allB 0 (fun l => rowG 7 (true :: false :: false :: true :: true :: true :: false :: l)) = true := by decide +kernel
theorem rows_7tffttft : allB 0 (fun l => rowG 7 (true :: false :: false :: true :: true :: false :: true :: l)) = true := by decide +kernel
theorem rows_7tffttff : allB 0 (fun l => rowG 7 (true :: false :: false :: true :: true :: false :: false :: l)) = true := by decide +kernel
theorem rows_7tfftftt : allB 0 (fun l => rowG 7 (true :: false :: false :: true :: false :: true :: true :: l)) = true := by decide +kernel
theorem rows_7tfftftf : allB 0 (fun l => rowG 7 (true :: false :: false :: true :: false :: true :: false :: l)) = true := by decide +kernel
theorem rows_7tfftfft : allB 0 (fun l => rowG 7 (true :: false :: false :: true :: false :: false :: true :: l)) = true := by decide +kernel
theorem rows_7tfftfff : allB 0 (fun l => rowG 7 (true :: false :: false :: true :: false :: false :: false :: l)) = true := by decide +kernel
theorem rows_7tfffttt : allB 0 (fun l => rowG 7 (true :: false :: false :: false :: true :: true :: true :: l)) = true := by decide +kernel
theorem rows_7tfffttf : allB 0 (fun l => rowG 7 (true :: false :: false :: false :: true :: true :: false :: l)) = true := by decide +kernel
theorem rows_7tffftft : allB 0 (fun l => rowG 7 (true :: false :: false :: false :: true :: false :: true :: l)) = true := by decide +kernel
theorem rows_7tffftff : allB 0 (fun l => rowG 7 (true :: false :: false :: false :: true :: false :: false :: l)) = true := by decide +kernel
theorem rows_7tfffftt : allB 0 (fun l => rowG 7 (true :: false :: false :: false :: false :: true :: true :: l)) = true := by decide +kernel
theorem rows_7tfffftf : allB 0 (fun l => rowG 7 (true :: false :: false :: false :: false :: true :: false :: l)) = true := by decide +kernel
theorem rows_7tffffft : allB 0 (fun l => rowG 7 (true :: false :: false :: false :: false :: false :: true :: l)) = true := by decide +kernel
theorem rows_7tffffff : allB 0 (fun l => rowG 7 (true :: false :: false :: false :: false :: false :: false :: l)) = true := by decide +kernel
theorem rows_7ftttttt : allB 0 (fun l => rowG 7 (false :: true :: true :: true :: true :: true :: true :: l)) = true := by decide +kernel
theorem rows_7ftttttf : allB 0 (fun l => rowG 7 (false :: true :: true :: true :: true :: true :: false :: l)) = true := by decide +kernel
theorem rows_7fttttft : allB 0 (fun l => rowG 7 (false :: true :: true :: true :: true :: false :: true :: l)) = true := by decide +kernel
theorem rows_7fttttff : allB 0 (fun l => rowG 7 (false :: true :: true :: true :: true :: false :: false :: l)) = true := by decide +kernel
theorem rows_7ftttftt : allB 0 (fun l => rowG 7 (false :: true :: true :: true :: false :: true :: true :: l)) = true := by decide +kernel
theorem rows_7ftttftf : allB 0 (fun l => rowG 7 (false :: true :: true :: true :: false :: true :: false :: l)) = true := by decide +kernel
theorem rows_7ftttfft : allB 0 (fun l => rowG 7 (false :: true :: true :: true :: false :: false :: true :: l)) = true := by decide +kernel
theorem rows_7ftttfff : allB 0 (fun l => rowG 7 (false :: true :: true :: true :: false :: false :: false :: l)) = true := by decide +kernel
theorem rows_7fttfttt : allB 0 (fun l => rowG 7 (false :: true :: true :: false :: true :: true :: true :: l)) = true := by decide +kernel
theorem rows_7fttfttf : allB 0 (fun l => rowG 7 (false :: true :: true :: false :: true :: true :: false :: l)) = true := by decide +kernel
theorem rows_7fttftft : allB 0 (fun l => rowG 7 (false :: true :: true :: false :: true :: false :: true :: l)) = true := by decide +kernel
theorem rows_7fttftff : allB 0 (fun l => rowG 7 (false :: true :: true :: false :: true :: false :: false :: l)) = true := by decide +kernel
theorem rows_7fttfftt : allB 0 (fun l => rowG 7 (false :: true :: true :: false :: false :: true :: true :: l)) = true := by decide +kernel
theorem rows_7fttfftf : allB 0 (fun l => rowG 7 (false :: true :: true :: false :: false :: true :: false :: l)) = true := by decide +kernel
theorem rows_7fttffft : allB 0 (fun l => rowG 7 (false :: true :: true :: false :: false :: false :: true :: l)) = true := by decide +kernel
theorem rows_7fttffff : allB 0 (fun l => rowG 7 (false :: true :: true :: false :: false :: false :: false :: l)) = true := by decide +kernel
theorem rows_7ftftttt : allB 0 (fun l => rowG 7 (false :: true :: false :: true :: true :: true :: true :: l)) = true := by decide +kernel
theorem rows_7ftftttf : allB 0 (fun l => rowG 7 (false :: true :: false :: true :: true :: true :: false :: l)) = true := by decide +kernel
theorem rows_7ftfttft : allB 0 (fun l => rowG 7 (false :: true :: false :: true :: true :: false :: true :: l)) = true := by decide +kernel
theorem rows_7ftfttff : allB 0 (fun l => rowG 7 (false :: true :: false :: true :: true :: false :: false :: l)) = true := by decide +kernel
theorem rows_7ftftftt : allB 0 (fun l => rowG 7 (false :: true :: false :: true :: false :: true :: true :: l)) = true := by decide +kernel
theorem rows_7ftftftf : allB 0 (fun l => rowG 7 (false :: true :: false :: true :: false :: true :: false :: l)) = true := by decide +kernel
theorem rows_7ftftfft : allB 0 (fun l => rowG 7 (false :: true :: false :: true :: false :: false :: true :: l)) = true := by decide +kernel
theorem rows_7ftftfff : allB 0 (fun l => rowG 7 (false :: true :: false :: true :: false :: false :: false :: l)) = true := by decide +kernel
theorem rows_7ftffttt : allB 0 (fun l => rowG 7 (false :: true :: false :: false :: true :: true :: true :: l)) = true := by decide +kernel
theorem rows_7ftffttf : allB 0 (fun l => rowG 7 (false :: true :: false :: false :: true :: true :: false :: l)) = true := by decide +kernel
theorem rows_7ftfftft : allB 0 (fun l => rowG 7 (false :: true :: false :: false :: true :: false :: true :: l)) = true := by decide +kernel
theorem rows_7ftfftff : allB 0 (fun l => rowG 7 (false :: true :: false :: false :: true :: false :: false :: l)) = true := by decide +kernel
theorem rows_7ftffftt : allB 0 (fun l => rowG 7 (false :: true :: false :: false :: false :: true :: true :: l)) = true := by decide +kernel
theorem rows_7ftffftf : allB 0 (fun l => rowG 7 (false :: true :: false :: false :: false :: true :: false :: l)) = true := by decide +kernel
theorem rows_7ftfffft : allB 0 (fun l => rowG 7 (false :: true :: false :: false :: false :: false :: true :: l)) = true := by decide +kernel
theorem rows_7ftfffff : allB 0 (fun l => rowG 7 (false :: true :: false :: false :: false :: false :: false :: l)) = true := by decide +kernel
theorem rows_7ffttttt : allB 0 (fun l => rowG 7 (false :: false :: true :: true :: true :: true :: true :: l)) = true := by decide +kernel
theorem rows_7ffttttf : allB 0 (fun l => rowG 7 (false :: false :: true :: true :: true :: true :: false :: l)) = true := by decide +kernel
theorem rows_7fftttft : allB 0 (fun l => rowG 7 (false :: false :: true :: true :: true :: false :: true :: l)) = true := by decide +kernel
theorem rows_7fftttff : allB 0 (fun l => rowG 7 (false :: false :: true :: true :: true :: false :: false :: l)) = true := by decide +kernel
theorem rows_7ffttftt : allB 0 (fun l => rowG 7 (false :: false :: true :: true :: false :: true :: true :: l)) = true := by decide +kernel
theorem rows_7ffttftf : allB 0 (fun l => rowG 7 (false :: false :: true :: true :: false :: true :: false :: l)) = true := by decide +kernel
theorem rows_7ffttfft : allB 0 (fun l => rowG 7 (false :: false :: true :: true :: false :: false :: true :: l)) = true := by decide +kernel
theorem rows_7ffttfff : allB 0 (fun l => rowG 7 (false :: false :: true :: true :: false :: false :: false :: l)) = true := by decide +kernel
theorem rows_7fftfttt : allB 0 (fun l => rowG 7 (false :: false :: true :: false :: true :: true :: true :: l)) = true := by decide +kernel
theorem rows_7fftfttf : allB 0 (fun l => rowG 7 (false :: false :: true :: false :: true :: true :: false :: l)) = true := by decide +kernel
theorem rows_7fftftft : allB 0 (fun l => rowG 7 (false :: false :: true :: false :: true :: false :: true :: l)) = true := by decide +kernel
theorem rows_7fftftff : allB 0 (fun l => rowG 7 (false :: false :: true :: false :: true :: false :: false :: l)) = true := by decide +kernel
theorem rows_7fftfftt : allB 0 (fun l => rowG 7 (false :: false :: true :: false :: false :: true :: true :: l)) = true := by decide +kernel
theorem rows_7fftfftf : allB 0 (fun l => rowG 7 (false :: false :: true :: false :: false :: true :: false :: l)) = true := by decide +kernel
theorem rows_7fftffft : allB 0 (fun l => rowG 7 (false :: false :: true :: false :: false :: false :: true :: l)) = true := by decide +kernel
theorem rows_7fftffff : allB 0 (fun l => rowG 7 (false :: false :: true :: false :: false :: false :: false :: l)) = true := by decide +kernel
theorem rows_7ffftttt : allB 0 (fun l => rowG 7 (false :: false :: false :: true :: true :: true :: true :: l)) = true := by decide +kernel
theorem rows_7ffftttf : allB 0 (fun l => rowG 7 (false :: false :: false :: true :: true :: true :: false :: l)) = true := by decide +kernel
theorem rows_7fffttft : allB 0 (fun l => rowG 7 (false :: false :: false :: true :: true :: false :: true :: l)) = true := by decide +kernel
theorem rows_7fffttff : allB 0 (fun l => rowG 7 (false :: false :: false :: true :: true :: false :: false :: l)) = true := by decide +kernel
theorem rows_7ffftftt : allB 0 (fun l => rowG 7 (false :: false :: false :: true :: false :: true :: true :: l)) = true := by decide +kernel
theorem rows_7ffftftf : allB 0 (fun l => rowG 7 (false :: false :: false :: true :: false :: true :: false :: l)) = true := by decide +kernel
theorem rows_7ffftfft : allB 0 (fun l => rowG 7 (false :: false :: false :: true :: false :: false :: true :: l)) = true := by decide +kernel
theorem rows_7ffftfff : allB 0 (fun l => rowG 7 (false :: false :: false :: true :: false :: false :: false :: l)) = true := by decide +kernel
theorem rows_7ffffttt : allB 0 (fun l => rowG 7 (false :: false :: false :: false :: true :: true :: true :: l)) = true := by decide +kernel
theorem rows_7ffffttf : allB 0 (fun l => rowG 7 (false :: false :: false :: false :: true :: true :: false :: l)) = true := by decide +kernel
theorem rows_7fffftft : allB 0 (fun l => rowG 7 (false :: false :: false :: false :: true :: false :: true :: l)) = true := by decide +kernel
theorem rows_7fffftff : allB 0 (fun l => rowG 7 (false :: false :: false :: false :: true :: false :: false :: l)) = true := by decide +kernel
theorem rows_7ffffftt : allB 0 (fun l => rowG 7 (false :: false :: false :: false :: false :: true :: true :: l)) = true := by decide +kernel
theorem rows_7ffffftf : allB 0 (fun l => rowG 7 (false :: false :: false :: false :: false :: true :: false :: l)) = true := by decide +kernel
theorem rows_7fffffft : allB 0 (fun l => rowG 7 (false :: false :: false :: false :: false :: false :: true :: l)) = true := by decide +kernel
theorem rows_7fffffff : allB 0 (fun l => rowG 7 (false :: false :: false :: false :: false :: false :: false :: l)) = true := by decide +kernel
end Mine
end
section
open PySem
namespace Mine
set_option maxRecDepth 100000
set_option autoImplicit false
set_option linter.unusedVariables false
theorem allB_split {n : Nat} {f : List Bool → Bool} (h : allB n (fun l => f (true :: l)) = true) (g : allB n (fun l => f (false :: l)) = true) : allB (n + 1) f = true := by
  show bB (allB n fun l => f (true :: l)) false (allB n fun l => f (false :: l)) = true
  rw [h, g]; rfl
theorem rows_all : ∀ (r : Nat) (bits : List Bool), r < 8 → bits.length = r → rowOk 20 r bits = true
  | 0, bits, _, e => rowG_ok (allB_ok 0 (fun l => rowG 0 l) (rows_0) bits e)
  | 1, bits, _, e => rowG_ok (allB_ok 1 (fun l => rowG 1 l) (allB_split (n := 0) (f := fun l => rowG 1 (l)) (rows_1t) (rows_1f)) bits e)
  | 2, bits, _, e => rowG_ok (allB_ok 2 (fun l => rowG 2 l) (allB_split (n := 1) (f := fun l => rowG 2 (l)) (allB_split (n := 0) (f := fun l => rowG 2 (true :: l)) (rows_2tt) (rows_2tf)) (allB_split (n := 0) (f := fun l => rowG 2 (false :: l)) (rows_2ft) (rows_2ff))) bits e)
  | 3, bits, _, e => rowG_ok (allB_ok 3 (fun l => rowG 3 l) (allB_split (n := 2) (f := fun l => rowG 3 (l)) (allB_split (n := 1) (f := fun l => rowG 3 (true :: l)) (allB_split (n := 0) (f := fun l => rowG 3 (true :: true :: l)) (rows_3ttt) (rows_3ttf)) (allB_split (n := 0) (f := fun l => rowG 3 (true :: false :: l)) (rows_3tft) (rows_3tff))) (allB_split (n := 1) (f := fun l => rowG 3 (false :: l)) (allB_split (n := 0) (f := fun l => rowG 3 (false :: true :: l)) (rows_3ftt) (rows_3ftf)) (allB_split (n := 0) (f := fun l => rowG 3 (false :: false :: l)) (rows_3fft) (rows_3fff)))) bits e)
  | 4, bits, _, e => rowG_ok (allB_ok 4 (fun l => rowG 4 l) (allB_split (n := 3) (f := fun l => rowG 4 (l)) (allB_split (n := 2) (f := fun l => rowG 4 (true :: l)) (allB_split (n := 1) (f := fun l => rowG 4 (true :: true :: l)) (allB_split (n := 0) (f := fun l => rowG 4 (true :: true :: true :: l)) (rows_4tttt) (rows_4tttf)) (allB_split (n := 0) (f := fun l => rowG 4 (true :: true :: false :: l)) (rows_4ttft) (rows_4ttff))) (allB_split (n := 1) (f := fun l => rowG 4 (true :: false :: l)) (allB_split (n := 0) (f := fun l => rowG 4 (true :: false :: true :: l)) (rows_4tftt) (rows_4tftf)) (allB_split (n := 0) (f := fun l => rowG 4 (true :: false :: false :: l)) (rows_4tfft) (rows_4tfff)))) (allB_split (n := 2) (f := fun l => rowG 4 (false :: l)) (allB_split (n := 1) (f := fun l => rowG 4 (false :: true :: l)) (allB_split (n := 0) (f := fun l => rowG 4 (false :: true :: true :: l)) (rows_4fttt) (rows_4fttf)) (allB_split (n := 0) (f := fun l => rowG 4 (false :: true :: false :: l)) (rows_4ftft) (rows_4ftff))) (allB_split (n := 1) (f := fun l => rowG 4 (false :: false :: l)) (allB_split (n := 0) (f := fun l => rowG 4 (false :: false :: true :: l)) (rows_4fftt) (rows_4fftf)) (allB_split (n := 0) (f := fun l => rowG 4 (false :: false :: false :: l)) (rows_4ffft) (rows_4ffff))))) bits e)
  | 5, bits, _, e => rowG_ok (allB_ok 5 (fun l => rowG 5 l) (allB_split (n := 4) (f := fun l => rowG 5 (l)) (allB_split (n := 3) (f := fun l => rowG 5 (true :: l)) (allB_split (n := 2) (f := fun l => rowG 5 (true :: true :: l)) (allB_split (n := 1) (f := fun l => rowG 5 (true :: true :: true :: l)) (allB_split (n := 0) (f := fun l => rowG 5 (true :: true :: true :: true :: l)) (rows_5ttttt) (rows_5ttttf)) (allB_split (n := 0) (f := fun l => rowG 5 (true :: true :: true :: false :: l)) (rows_5tttft) (rows_5tttff))) (allB_split (n := 1) (f := fun l => rowG 5 (true :: true :: false :: l)) (allB_split (n := 0) (f := fun l => rowG 5 (true :: true :: false :: true :: l)) (rows_5ttftt) (rows_5ttftf)) (allB_split (n := 0) (f := fun l => rowG 5 (true :: true :: false :: false :: l)) (rows_5ttfft) (rows_5ttfff)))) (allB_split (n := 2) (f := fun l => rowG 5 (true :: false :: l)) (allB_split (n := 1) (f := fun l => rowG 5 (true :: false :: true :: l)) (allB_split (n := 0) (f := fun l => rowG 5 (true :: false :: true :: true :: l)) (rows_5tfttt) (rows_5tfttf)) (allB_split (n := 0) (f := fun l => rowG 5 (true :: false :: true :: false :: l)) (rows_5tftft) (rows_5tftff))) (allB_split (n := 1) (f := fun l => rowG 5 (true :: false :: false :: l)) (allB_split (n := 0) (f := fun l => rowG 5 (true :: false :: false :: true :: l)) (rows_5tfftt) (rows_5tfftf)) (allB_split (n := 0) (f := fun l => rowG 5 (true :: false :: false :: false :: l)) (rows_5tffft) (rows_5tffff))))) (allB_split (n := 3) (f := fun l => rowG 5 (false :: l)) (allB_split (n := 2) (f := fun l => rowG 5 (false :: true :: l)) (allB_split (n := 1) (f := fun l => rowG 5 (false :: true :: true :: l)) (allB_split (n := 0) (f := fun l => rowG 5 (false :: true :: true :: true :: l)) (rows_5ftttt) (rows_5ftttf)) (allB_split (n := 0) (f := fun l => rowG 5 (false :: true :: true :: false :: l)) (rows_5fttft) (rows_5fttff))) (allB_split (n := 1) (f := fun l => rowG 5 (false :: true :: false :: l)) (allB_split (n := 0) (f := fun l => rowG 5 (false :: true :: false :: true :: l)) (rows_5ftftt) (rows_5ftftf)) (allB_split (n := 0) (f := fun l => rowG 5 (false :: true :: false :: false :: l)) (rows_5ftfft) (rows_5ftfff)))) (allB_split (n := 2) (f := fun l => rowG 5 (false :: false :: l)) (allB_split (n := 1) (f := fun l => rowG 5 (false :: false :: true :: l)) (allB_split (n := 0) (f := fun l => rowG 5 (false :: false :: true :: true :: l)) (rows_5ffttt) (rows_5ffttf)) (allB_split (n := 0) (f := fun l => rowG 5 (false :: false :: true :: false :: l)) (rows_5fftft) (rows_5fftff))) (allB_split (n := 1) (f := fun l => rowG 5 (false :: false :: false :: l)) (allB_split (n := 0) (f := fun l => rowG 5 (false :: false :: false :: true :: l)) (rows_5ffftt) (rows_5ffftf)) (allB_split (n := 0) (f := fun l => rowG 5 (false :: false :: false :: false :: l)) (rows_5fffft) (rows_5fffff)))))) bits e)
  | 6, bits, _, e => rowG_ok (allB_ok 6 (fun l => rowG 6 l) (allB_split (n := 5) (f := fun l => rowG 6 (l)) (allB_split (n := 4) (f := fun l => rowG 6 (true :: l)) (allB_split (n := 3) (f := fun l => rowG 6 (true :: true :: l)) (allB_split (n := 2) (f := fun l => rowG 6 (true :: true :: true :: l)) (allB_split (n := 1) (f := fun l => rowG 6 (true :: true :: true :: true :: l)) (allB_split (n := 0) (f := fun l => rowG 6 (true :: true :: true :: true :: true :: l)) (rows_6tttttt) (rows_6tttttf)) (allB_split (n := 0) (f := fun l => rowG 6 (true :: true :: true :: true :: false :: l)) (rows_6ttttft) (rows_6ttttff))) (allB_split (n := 1) (f := fun l => rowG 6 (true :: true :: true :: false :: l)) (allB_split (n := 0) (f := fun l => rowG 6 (true :: true :: true :: false :: true :: l)) (rows_6tttftt) (rows_6tttftf)) (allB_split (n := 0) (f := fun l => rowG 6 (true :: true :: true :: false :: false :: l)) (rows_6tttfft) (rows_6tttfff)))) (allB_split (n := 2) (f := fun l => rowG 6 (true :: true :: false :: l)) (allB_split (n := 1) (f := fun l => rowG 6 (true :: true :: false :: true :: l)) (allB_split (n := 0) (f := fun l => rowG 6 (true :: true :: false :: true :: true :: l)) (rows_6ttfttt) (rows_6ttfttf)) (allB_split (n := 0) (f := fun l => rowG 6 (true :: true :: false :: true :: false :: l)) (rows_6ttftft) (rows_6ttftff))) (allB_split (n := 1) (f := fun l => rowG 6 (true :: true :: false :: false :: l)) (allB_split (n := 0) (f := fun l => rowG 6 (true :: true :: false :: false :: true :: l)) (rows_6ttfftt) (rows_6ttfftf)) (allB_split (n := 0) (f := fun l => rowG 6 (true :: true :: false :: false :: false :: l)) (rows_6ttffft) (rows_6ttffff))))) (allB_split (n := 3) (f := fun l => rowG 6 (true :: false :: l)) (allB_split (n := 2) (f := fun l => rowG 6 (true :: false :: true :: l)) (allB_split (n := 1) (f := fun l => rowG 6 (true :: false :: true :: true :: l)) (allB_split (n := 0) (f := fun l => rowG 6 (true :: false :: true :: true :: true :: l)) (rows_6tftttt) (rows_6tftttf)) (allB_split (n := 0) (f := fun l => rowG 6 (true :: false :: true :: true :: false :: l)) (rows_6tfttft) (rows_6tfttff))) (allB_split (n := 1) (f := fun l => rowG 6 (true :: false :: true :: false :: l)) (allB_split (n := 0) (f := fun l => rowG 6 (true :: false :: true :: false :: true :: l)) (rows_6tftftt) (rows_6tftftf)) (allB_split (n := 0) (f := fun l => rowG 6 (true :: false :: true :: false :: false :: l)) (rows_6tftfft) (rows_6tftfff)))) (allB_split (n := 2) (f := fun l => rowG 6 (true :: false :: false :: l)) (allB_split (n := 1) (f := fun l => rowG 6 (true :: false :: false :: true :: l)) (allB_split (n := 0) (f := fun l => rowG 6 (true :: false :: false :: true :: true :: l)) (rows_6tffttt) (rows_6tffttf)) (allB_split (n := 0) (f := fun l => rowG 6 (true :: false :: false :: true :: false :: l)) (rows_6tfftft) (rows_6tfftff))) (allB_split (n := 1) (f := fun l => rowG 6 (true :: false :: false :: false :: l)) (allB_split (n := 0) (f := fun l => rowG 6 (true :: false :: false :: false :: true :: l)) (rows_6tffftt) (rows_6tffftf)) (allB_split (n := 0) (f := fun l => rowG 6 (true :: false :: false :: false :: false :: l)) (rows_6tfffft) (rows_6tfffff)))))) (allB_split (n := 4) (f := fun l => rowG 6 (false :: l)) (allB_split (n := 3) (f := fun l => rowG 6 (false :: true :: l)) (allB_split (n := 2) (f := fun l => rowG 6 (false :: true :: true :: l)) (allB_split (n := 1) (f := fun l => rowG 6 (false :: true :: true :: true :: l)) (allB_split (n := 0) (f := fun l => rowG 6 (false :: true :: true :: true :: true :: l)) (rows_6fttttt) (rows_6fttttf)) (allB_split (n := 0) (f := fun l => rowG 6 (false :: true :: true :: true :: false :: l)) (rows_6ftttft) (rows_6ftttff))) (allB_split (n := 1) (f := fun l => rowG 6 (false :: true :: true :: false :: l)) (allB_split (n := 0) (f := fun l => rowG 6 (false :: true :: true :: false :: true :: l)) (rows_6fttftt) (rows_6fttftf)) (allB_split (n := 0) (f := fun l => rowG 6 (false :: true :: true :: false :: false :: l)) (rows_6fttfft) (rows_6fttfff)))) (allB_split (n := 2) (f := fun l => rowG 6 (false :: true :: false :: l)) (allB_split (n := 1) (f := fun l => rowG 6 (false :: true :: false :: true :: l)) (allB_split (n := 0) (f := fun l => rowG 6 (false :: true :: false :: true :: true :: l)) (rows_6ftfttt) (rows_6ftfttf)) (allB_split (n := 0) (f := fun l => rowG 6 (false :: true :: false :: true :: false :: l)) (rows_6ftftft) (rows_6ftftff))) (allB_split (n := 1) (f := fun l => rowG 6 (false :: true :: false :: false :: l)) (allB_split (n := 0) (f := fun l => rowG 6 (false :: true :: false :: false :: true :: l)) (rows_6ftfftt) (rows_6ftfftf)) (allB_split (n := 0) (f := fun l => rowG 6 (false :: true :: false :: false :: false :: l)) (rows_6ftffft) (rows_6ftffff))))) (allB_split (n := 3) (f := fun l => rowG 6 (false :: false :: l)) (allB_split (n := 2) (f := fun l => rowG 6 (false :: false :: true :: l)) (allB_split (n := 1) (f := fun l => rowG 6 (false :: false :: true :: true :: l)) (allB_split (n := 0) (f := fun l => rowG 6 (false :: false :: true :: true :: true :: l)) (rows_6fftttt) (rows_6fftttf)) (allB_split (n := 0) (f := fun l => rowG 6 (false :: false :: true :: true :: false :: l)) (rows_6ffttft) (rows_6ffttff))) (allB_split (n := 1) (f := fun l => rowG 6 (false :: false :: true :: false :: l)) (allB_split (n := 0) (f := fun l => rowG 6 (false :: false :: true :: false :: true :: l)) (rows_6fftftt) (rows_6fftftf)) (allB_split (n := 0) (f := fun l => rowG 6 (false :: false :: true :: false :: false :: l)) (rows_6fftfft) (rows_6fftfff)))) (allB_split (n := 2) (f := fun l => rowG 6 (false :: false :: false :: l)) (allB_split (n := 1) (f := fun l => rowG 6 (false :: false :: false :: true :: l)) (allB_split (n := 0) (f := fun l => rowG 6 (false :: false :: false :: true :: true :: l)) (rows_6fffttt) (rows_6fffttf)) (allB_split (n := 0) (f := fun l => rowG 6 (false :: false :: false :: true :: false :: l)) (rows_6ffftft) (rows_6ffftff))) (allB_split (n := 1) (f := fun l => rowG 6 (false :: false :: false :: false :: l)) (allB_split (n := 0) (f := fun l => rowG 6 (false :: false :: false :: false :: true :: l)) (rows_6fffftt) (rows_6fffftf)) (allB_split (n := 0) (f := fun l => rowG 6 (false :: false :: false :: false :: false :: l)) (rows_6ffffft) (rows_6ffffff))))))) bits e)
  | 7, bits, _, e => rowG_ok (allB_ok 7 (fun l => rowG 7 l) (allB_split (n := 6) (f := fun l => rowG 7 (l)) (allB_split (n := 5) (f := fun l => rowG 7 (true :: l)) (allB_split (n := 4) (f := fun l => rowG 7 (true :: true :: l)) (allB_split (n := 3) (f := fun l => rowG 7 (true :: true :: true :: l)) (allB_split (n := 2) (f := fun l => rowG 7 (true :: true :: true :: true :: l)) (allB_split (n := 1) (f := fun l => rowG 7 (true :: true :: true :: true :: true :: l)) (allB_split (n := 0) (f := fun l => rowG 7 (true :: true :: true :: true :: true :: true :: l)) (rows_7ttttttt) (rows_7ttttttf)) (allB_split (n := 0) (f := fun l => rowG 7 (true :: true :: true :: true :: true :: false :: l)) (rows_7tttttft) (rows_7tttttff))) (allB_split (n := 1) (f := fun l => rowG 7 (true :: true :: true :: true :: false :: l)) (allB_split (n := 0) (f := fun l => rowG 7 (true :: true :: true :: true :: false :: true :: l)) (rows_7ttttftt) (rows_7ttttftf)) (allB_split (n := 0) (f := fun l => rowG 7 (true :: true :: true :: true :: false :: false :: l)) (rows_7ttttfft) (rows_7ttttfff)))) (allB_split (n := 2) (f := fun l => rowG 7 (true :: true :: true :: false :: l)) (allB_split (n := 1) (f := fun l => rowG 7 (true :: true :: true :: false :: true :: l)) (allB_split (n := 0) (f := fun l => rowG 7 (true :: true :: true :: false :: true :: true :: l)) (rows_7tttfttt) (rows_7tttfttf)) (allB_split (n := 0) (f := fun l => rowG 7 (true :: true :: true :: false :: true :: false :: l)) (rows_7tttftft) (rows_7tttftff))) (allB_split (n := 1) (f := fun l => rowG 7 (true :: true :: true :: false :: false :: l)) (allB_split (n := 0) (f := fun l => rowG 7 (true :: true :: true :: false :: false :: true :: l)) (rows_7tttfftt) (rows_7tttfftf)) (allB_split (n := 0) (f := fun l => rowG 7 (true :: true :: true :: false :: false :: false :: l)) (rows_7tttffft) (rows_7tttffff))))) (allB_split (n := 3) (f := fun l => rowG 7 (true :: true :: false :: l)) (allB_split (n := 2) (f := fun l => rowG 7 (true :: true :: false :: true :: l)) (allB_split (n := 1) (f := fun l => rowG 7 (true :: true :: false :: true :: true :: l)) (allB_split (n := 0) (f := fun l => rowG 7 (true :: true :: false :: true :: true :: true :: l)) (rows_7ttftttt) (rows_7ttftttf)) (allB_split (n := 0) (f := fun l => rowG 7 (true :: true :: false :: true :: true :: false :: l)) (rows_7ttfttft) (rows_7ttfttff))) (allB_split (n := 1) (f := fun l => rowG 7 (true :: true :: false :: true :: false :: l)) (allB_split (n := 0) (f := fun l => rowG 7 (true :: true :: false :: true :: false :: true :: l)) (rows_7ttftftt) (rows_7ttftftf)) (allB_split (n := 0) (f := fun l => rowG 7 (true :: true :: false :: true :: false :: false :: l)) (rows_7ttftfft) (rows_7ttftfff)))) (allB_split (n := 2) (f := fun l => rowG 7 (true :: true :: false :: false :: l)) (allB_split (n := 1) (f := fun l => rowG 7 (true :: true :: false :: false :: true :: l)) (allB_split (n := 0) (f := fun l => rowG 7 (true :: true :: false :: false :: true :: true :: l)) (rows_7ttffttt) (rows_7ttffttf)) (allB_split (n := 0) (f := fun l => rowG 7 (true :: true :: false :: false :: true :: false :: l)) (rows_7ttfftft) (rows_7ttfftff))) (allB_split (n := 1) (f := fun l => rowG 7 (true :: true :: false :: false :: false :: l)) (allB_split (n := 0) (f := fun l => rowG 7 (true :: true :: false :: false :: false :: true :: l)) (rows_7ttffftt) (rows_7ttffftf)) (allB_split (n := 0) (f := fun l => rowG 7 (true :: true :: false :: false :: false :: false :: l)) (rows_7ttfffft) (rows_7ttfffff)))))) (allB_split (n := 4) (f := fun l => rowG 7 (true :: false :: l)) (allB_split (n := 3) (f := fun l => rowG 7 (true :: false :: true :: l)) (allB_split (n := 2) (f := fun l => rowG 7 (true :: false :: true :: true :: l)) (allB_split (n := 1) (f := fun l => rowG 7 (true :: false :: true :: true :: true :: l)) (allB_split (n := 0) (f := fun l => rowG 7 (true :: false :: true :: true :: true :: true :: l)) (rows_7tfttttt) (rows_7tfttttf)) (allB_split (n := 0) (f := fun l => rowG 7 (true :: false :: true :: true :: true :: false :: l)) (rows_7tftttft) (rows_7tftttff))) (allB_split (n := 1) (f := fun l => rowG 7 (true :: false :: true :: true :: false :: l)) (allB_split (n := 0) (f := fun l => rowG 7 (true :: false :: true :: true :: false :: true :: l)) (rows_7tfttftt) (rows_7tfttftf)) (allB_split (n := 0) (f := fun l => rowG 7 (true :: false :: true :: true :: false :: false :: l)) (rows_7tfttfft) (rows_7tfttfff)))) (allB_split (n := 2) (f := fun l => rowG 7 (true :: false :: true :: false :: l)) (allB_split (n := 1) (f := fun l => rowG 7 (true :: false :: true :: false :: true :: l)) (allB_split (n := 0) (f := fun l => rowG 7 (true :: false :: true :: false :: true :: true :: l)) (rows_7tftfttt) (rows_7tftfttf)) (allB_split (n := 0) (f := fun l => rowG 7 (true :: false :: true :: false :: true :: false :: l)) (rows_7tftftft) (rows_7tftftff))) (allB_split (n := 1) (f := fun l => rowG 7 (true :: false :: true :: false :: false :: l)) (allB_split (n := 0) (f := fun l => rowG 7 (true :: false :: true :: false :: false :: true :: l)) (rows_7tftfftt) (rows_7tftfftf)) (allB_split (n := 0) (f := fun l => rowG 7 (true :: false :: true :: false :: false :: false :: l)) (rows_7tftffft) (rows_7tftffff))))) (allB_split (n := 3) (f := fun l => rowG 7 (true :: false :: false :: l)) (allB_split (n := 2) (f := fun l => rowG 7 (true :: false :: false :: true :: l)) (allB_split (n := 1) (f := fun l => rowG 7 (true :: false :: false :: true :: true :: l)) (allB_split (n := 0) (f := fun l => rowG 7 (true :: false :: false :: true :: true :: true :: l)) (rows_7tfftttt) (rows_7tfftttf)) (allB_split (n := 0) (f := fun l => rowG 7 (true :: false :: false :: true :: true :: false :: l)) (rows_7tffttft) (rows_7tffttff))) (allB_split (n := 1) (f := fun l => rowG 7 (true :: false :: false :: true :: false :: l)) (allB_split (n := 0) (f := fun l => rowG 7 (true :: false :: false :: true :: false :: true :: l)) (rows_7tfftftt) (rows_7tfftftf)) (allB_split (n := 0) (f := fun l => rowG 7 (true :: false :: false :: true :: false :: false :: l)) (rows_7tfftfft) (rows_7tfftfff)))) (allB_split (n := 2) (f := fun l => rowG 7 (true :: false :: false :: false :: l)) (allB_split (n := 1) (f := fun l => rowG 7 (true :: false :: false :: false :: true :: l)) (allB_split (n := 0) (f := fun l => rowG 7 (true :: false :: false :: false :: true :: true :: l)) (rows_7tfffttt) (rows_7tfffttf)) (allB_split (n := 0) (f := fun l => rowG 7 (true :: false :: false :: false :: true :: false :: l)) (rows_7tffftft) (rows_7tffftff))) (allB_split (n := 1) (f := fun l => rowG 7 (true :: false :: false :: false :: false :: l)) (allB_split (n := 0) (f := fun l => rowG 7 (true :: false :: false :: false :: false :: true :: l)) (rows_7tfffftt) (rows_7tfffftf)) (allB_split (n := 0) (f := fun l => rowG 7 (true :: false :: false :: false :: false :: false :: l)) (rows_7tffffft) (rows_7tffffff))))))) (allB_split (n := 5) (f := fun l => rowG 7 (false :: l)) (allB_split (n := 4) (f := fun l => rowG 7 (false :: true :: l)) (allB_split (n := 3) (f := fun l => rowG 7 (false :: true :: true :: l)) (allB_split (n := 2) (f := fun l => rowG 7 (false :: true :: true :: true :: l)) (allB_split (n := 1) (f := fun l => rowG 7 (false :: true :: true :: true :: true :: l)) (allB_split (n := 0) (f := fun l => rowG 7 (false :: true :: true :: true :: true :: true :: l)) (rows_7ftttttt) (rows_7ftttttf)) (allB_split (n := 0) (f := fun l => rowG 7 (false :: true :: true :: true :: true :: false :: l)) (rows_7fttttft) (rows_7fttttff))) (allB_split (n := 1) (f := fun l => rowG 7 (false :: true :: true :: true :: false :: l)) (allB_split (n := 0) (f := fun l => rowG 7 (false :: true :: true :: true :: false :: true :: l)) (rows_7ftttftt) (rows_7ftttftf)) (allB_split (n := 0) (f := fun l => rowG 7 (false :: true :: true :: true :: false :: false :: l)) (rows_7ftttfft) (rows_7ftttfff)))) (allB_split (n := 2) (f := fun l => rowG 7 (false :: true :: true :: false :: l)) (allB_split (n := 1) (f := fun l => rowG 7 (false :: true :: true :: false :: true :: l)) (allB_split (n := 0) (f := fun l => rowG 7 (false :: true :: true :: false :: true :: true :: l)) (rows_7fttfttt) (rows_7fttfttf)) (allB_split (n := 0) (f := fun l => rowG 7 (false :: true :: true :: false :: true :: false :: l)) (rows_7fttftft) (rows_7fttftff))) (allB_split (n := 1) (f := fun l => rowG 7 (false :: true :: true :: false :: false :: l)) (allB_split (n := 0) (f := fun l => rowG 7 (false :: true :: true :: false :: false :: true :: l)) (rows_7fttfftt) (rows_7fttfftf)) (allB_split (n := 0) (f := fun l => rowG 7 (false :: true :: true :: false :: false :: false :: l)) (rows_7fttffft) (rows_7fttffff))))) (allB_split (n := 3) (f := fun l => rowG 7 (false :: true :: false :: l)) (allB_split (n := 2) (f := fun l => rowG 7 (false :: true :: false :: true :: l)) (allB_split (n := 1) (f := fun l => rowG 7 (false :: true :: false :: true :: true :: l)) (allB_split (n := 0) (f := fun l => rowG 7 (false :: true :: false :: true :: true :: true :: l)) (rows_7ftftttt) (rows_7ftftttf)) (allB_split (n := 0) (f := fun l => rowG 7 (false :: true :: false :: true :: true :: false :: l)) (rows_7ftfttft) (rows_7ftfttff))) (allB_split (n := 1) (f := fun l => rowG 7 (false :: true :: false :: true :: false :: l)) (allB_split (n := 0) (f := fun l => rowG 7 (false :: true :: false :: true :: false :: true :: l)) (rows_7ftftftt) (rows_7ftftftf)) (allB_split (n := 0) (f := fun l => rowG 7 (false :: true :: false :: true :: false :: false :: l)) (rows_7ftftfft) (rows_7ftftfff)))) (allB_split (n := 2) (f := fun l => rowG 7 (false :: true :: false :: false :: l)) (allB_split (n := 1) (f := fun l => rowG 7 (false :: true :: false :: false :: true :: l)) (allB_split (n := 0) (f := fun l => rowG 7 (false :: true :: false :: false :: true :: true :: l)) (rows_7ftffttt) (rows_7ftffttf)) (allB_split (n := 0) (f := fun l => rowG 7 (false :: true :: false :: false :: true :: false :: l)) (rows_7ftfftft) (rows_7ftfftff))) (allB_split (n := 1) (f := fun l => rowG 7 (false :: true :: false :: false :: false :: l)) (allB_split (n := 0) (f := fun l => rowG 7 (false :: true :: false :: false :: false :: true :: l)) (rows_7ftffftt) (rows_7ftffftf)) (allB_split (n := 0) (f := fun l => rowG 7 (false :: true :: false :: false :: false :: false :: l)) (rows_7ftfffft) (rows_7ftfffff)))))) (allB_split (n := 4) (f := fun l => rowG 7 (false :: false :: l)) (allB_split (n := 3) (f := fun l => rowG 7 (false :: false :: true :: l)) (allB_split (n := 2) (f := fun l => rowG 7 (false :: false :: true :: true :: l)) (allB_split (n := 1) (f := fun l => rowG 7 (false :: false :: true :: true :: true :: l)) (allB_split (n := 0) (f := fun l => rowG 7 (false :: false :: true :: true :: true :: true :: l)) (rows_7ffttttt) (rows_7ffttttf)) (allB_split (n := 0) (f := fun l => rowG 7 (false :: false :: true :: true :: true :: false :: l)) (rows_7fftttft) (rows_7fftttff))) (allB_split (n := 1) (f := fun l => rowG 7 (false :: false :: true :: true :: false :: l)) (allB_split (n := 0) (f := fun l => rowG 7 (false :: false :: true :: true :: false :: true :: l)) (rows_7ffttftt) (rows_7ffttftf)) (allB_split (n := 0) (f := fun l => rowG 7 (false :: false :: true :: true :: false :: false :: l)) (rows_7ffttfft) (rows_7ffttfff)))) (allB_split (n := 2) (f := fun l => rowG 7 (false :: false :: true :: false :: l)) (allB_split (n := 1) (f := fun l => rowG 7 (false :: false :: true :: false :: true :: l)) (allB_split (n := 0) (f := fun l => rowG 7 (false :: false :: true :: false :: true :: true :: l)) (rows_7fftfttt) (rows_7fftfttf)) (allB_split (n := 0) (f := fun l => rowG 7 (false :: false :: true :: false :: true :: false :: l)) (rows_7fftftft) (rows_7fftftff))) (allB_split (n := 1) (f := fun l => rowG 7 (false :: false :: true :: false :: false :: l)) (allB_split (n := 0) (f := fun l => rowG 7 (false :: false :: true :: false :: false :: true :: l)) (rows_7fftfftt) (rows_7fftfftf)) (allB_split (n := 0) (f := fun l => rowG 7 (false :: false :: true :: false :: false :: false :: l)) (rows_7fftffft) (rows_7fftffff))))) (allB_split (n := 3) (f := fun l => rowG 7 (false :: false :: false :: l)) (allB_split (n := 2) (f := fun l => rowG 7 (false :: false :: false :: true :: l)) (allB_split (n := 1) (f := fun l => rowG 7 (false :: false :: false :: true :: true :: l)) (allB_split (n := 0) (f := fun l => rowG 7 (false :: false :: false :: true :: true :: true :: l)) (rows_7ffftttt) (rows_7ffftttf)) (allB_split (n := 0) (f := fun l => rowG 7 (false :: false :: false :: true :: true :: false :: l)) (rows_7fffttft) (rows_7fffttff))) (allB_split (n := 1) (f := fun l => rowG 7 (false :: false :: false :: true :: false :: l)) (allB_split (n := 0) (f := fun l => rowG 7 (false :: false :: false :: true :: false :: true :: l)) (rows_7ffftftt) (rows_7ffftftf)) (allB_split (n := 0) (f := fun l => rowG 7 (false :: false :: false :: true :: false :: false :: l)) (rows_7ffftfft) (rows_7ffftfff)))) (allB_split (n := 2) (f := fun l => rowG 7 (false :: false :: false :: false :: l)) (allB_split (n := 1) (f := fun l => rowG 7 (false :: false :: false :: false :: true :: l)) (allB_split (n := 0) (f := fun l => rowG 7 (false :: false :: false :: false :: true :: true :: l)) (rows_7ffffttt) (rows_7ffffttf)) (allB_split (n := 0) (f := fun l => rowG 7 (false :: false :: false :: false :: true :: false :: l)) (rows_7fffftft) (rows_7fffftff))) (allB_split (n := 1) (f := fun l => rowG 7 (false :: false :: false :: false :: false :: l)) (allB_split (n := 0) (f := fun l => rowG 7 (false :: false :: false :: false :: false :: true :: l)) (rows_7ffffftt) (rows_7ffffftf)) (allB_split (n := 0) (f := fun l => rowG 7 (false :: false :: false :: false :: false :: false :: l)) (rows_7fffffft) (rows_7fffffff)))))))) bits e)
  | n + 8, _, h, _ => absurd h (by omega)
end Mine
end
section
open PySem PySem.Calls PyProof.Rows PySem.W PySem.SeqAt
namespace Mine
set_option maxRecDepth 100000
set_option autoImplicit false
set_option linter.unusedVariables false

def st1 : S := .asg (.loc 1) (.sub (.loc 0) (.cst (.int 0)))

section
variable {prog : Program} {w : World} {ρ : Nat → Int} {hb : Heap} {mg mb : Str → Option Value} {nm : Nm} {env : Env} {s : Shared} {A : Around}

theorem raise_st (G : GF hb mg mb) {fm : Fm} {H : List O} {σ : List Addr} {E : Value → Shared → Prop} {Q : Flow → Shared → Prop} {e : PySem.Stmt} (hh : A.handled = none) (ce : CSt nm e .rais) (I : Inv ρ hb nm env fm H σ s.heap)
    (k : ∀ h' tk x vs, Heap.MadeExcOf s.heap h' x (.type "TypeError") vs → E (.ref x) { s with heap := h', toks := tk }) : wpAny (model prog w) A (exec e env) Q E s := by
  cases ce with
  | @rais pp qq rr tt kk m hgl hm =>
    refine Raise_madeB PySem.F.excCall_TypeError PySem.F.excRaise_TypeError hh (S_glob G I hgl (by decide +kernel) (by rfl) ⟨rfl, ?_⟩) rfl rfl
    rw [star_cons rfl]
    refine spliced_cons ?_
    show wpAny _ _ (eval (.Constant (.str m) kk qq) env) _ _ _
    refine Constant_str (k := kk) (pos := qq) (spliced_nil ⟨by rw [sizeLine_eq]; show 1 ≤ 16777216; decide, fun h' x hx => ?_⟩)
    exact k h' _ x _ hx.of

theorem good_step {s0 hx hy : Heap} {D : Addr} {cenv : Env} {σx σy : List Addr} (hL : s0.get? cenv.locals = none) (g : ∃ τ', σx = [D] ++ τ' ∧ ∀ a ∈ τ', s0.get? a = none) (hk : ∀ b o, s0.get? b = some o → hx.get? b = some o) (st : Step cenv 1 σx hx σy hy) :
    (∃ τ', σy = [D] ++ τ' ∧ ∀ a ∈ τ', s0.get? a = none) ∧ ∀ b o, s0.get? b = some o → hy.get? b = some o := by
  obtain ⟨τ', rfl, f'⟩ := g
  refine ⟨?_, fun b o e => ?_⟩
  · obtain ⟨τ2, rfl, f2⟩ := st.ext
    refine ⟨τ' ++ τ2, by rw [List.append_assoc], fun a ha' => ?_⟩
    rcases List.mem_append.mp ha' with q | q
    · exact f' a q
    · cases q' : s0.get? a with
      | none => rfl
      | some o' => have := f2 a q; rw [hk a o' q'] at this; cases this
  · refine st.keep b o (fun q => by rw [q, hL] at e; cases e) (fun n hn q => ?_) (hk b o e)
    rw [List.getElem?_append_right hn] at q
    rw [f' b (List.mem_of_getElem? q)] at e
    cases e

/-- the beginning that the three functions share, at a list of one None -/
structure Refuses (fn : FnD) (a1 a2 a3 : List S) (rest : List S) (fm1 : Fm) (H0 : List O) : Prop where
  body : fn.body = st1 :: .ifs (.isi "str" (.loc 1)) a1 [.ifs (.isi "tuple" (.loc 1)) a2 [.ifs (.isi "int" (.loc 1)) a3 [.rais]]] :: rest
  ar : fn.ar = 1
  dfl : fn.dfl = []
  h0 : (mkF [.ref 0] fn.sl [.list [.none]]).2 = H0
  first : stF (run ⟨none, []⟩ PP 6) ⟨(mkF [.ref 0] fn.sl [.list [.none]]).1, 1⟩ H0 st1 = some (.next, fm1, H0)
  t1 : (run ⟨none, []⟩ PP 6).ts fm1 H0 (.isi "str" (.loc 1)) = some (false, H0)
  t2 : (run ⟨none, []⟩ PP 6).ts fm1 H0 (.isi "tuple" (.loc 1)) = some (false, H0)
  t3 : (run ⟨none, []⟩ PP 6).ts fm1 H0 (.isi "int" (.loc 1)) = some (false, H0)

theorem raise_call (G : GF hb mg mb) (FS : FnsOK hb mg PP) {f : Str} {fn : FnD} (FO : FnOK hb mg f fn) {a1 a2 a3 rest : List S} {fm1 : Fm} {H0 : List O} (RF : Refuses fn a1 a2 a3 rest fm1 H0)
    {D : Addr} {c : Nat} {base : Heap} {outer : List Env} {E Q : Value → Shared → Prop} (hA1 : A.handled = none) (hA2 : A.depth < 500) (hA3 : A.units < 1000) (hfr : A.frames = some outer)
    (ht : 1 ≤ s.toks) (bs : ∀ b o, hb.get? b = some o → s.heap.get? b = some o) (hD : s.heap.get? D = some (listOf (List.toArray [Value.none]) c)) (hkb : base.StaysIn s.heap) (hl : s.heap.FunFrames base outer)
    (k : ∀ h' tk x a0, Heap.FlyingW base outer x (.type "TypeError") a0 h' → s.heap.UpToSlots h' → E (.ref x) { s with heap := h', toks := tk }) :
    ∃ a o fd, mg f = some (.ref a) ∧ hb.get? a = some o ∧ o.data = .func fd ∧ wpAny (model prog w) A (call (.ref a) [.ref D]) Q E s := by
  have hr0 : HR (fun _ => 0) [D] [.list [.none]] s.heap := ⟨rfl, fun n o a e e' => by
    cases n with
    | zero => simp at e e'; subst e; subst e'; exact ⟨[Value.none], c, hD, .cons .none .nil⟩
    | succ n => simp at e⟩
  have OK0 : OrcOk ⟨none, []⟩ (fun _ => 0) := ⟨fun c e => by simp at e, fun d b e => by simp [bitAt] at e⟩
  have S0 := (sound_all (prog := prog) (w := w) (P := PP) OK0 G FS 6).1
  have core := callCore (prog := prog) (w := w) (ρ := fun _ => 0) (s := s) (A := A) (H := [.list [.none]]) (σ := [D]) (vs := [.ref 0]) (vals := [.ref D]) (sl := (mkF [.ref 0] fn.sl [.list [.none]]).1) (H2 := H0)
    (R := fun r s' => match r with | .ok (.ret v) => Q v s' | .ok _ => False | .error e => E e s') G FO (by show A.depth < 1000; omega) ht bs hr0 (by simp) (.cons (.ref 0 D rfl) .nil) (by rw [RF.dfl, RF.ar]; rfl) (by rw [RF.dfl, ← RF.h0]; rfl)
    (fun cenv nmf body h1 t1 τ hcf ht1 hcs I1 hτ hL hk1 => by
      have hA : OkA 6 (A.deeper cenv) := ⟨hA1, by show A.depth + 1 + 6 < 900; omega, by show A.units + 3 + 8 * 6 < 9000; omega⟩
      rw [RF.body] at hcs
      cases hcs with
      | cons c0 hcs =>
        refine wpAny_execs_cons (S0.st (s := { s with heap := h1, toks := t1 }) hA ht1 c0 I1 RF.first fun f h2 t2 σ2 hf2 I2 st2 hr2 ht2 => ?_)
        cases f <;> first | exact hr2.elim | skip
        cases hcs with
        | cons c1 hcs =>
          cases c1 with
          | ifs ca cb cc =>
            refine wpAny_execs_cons ?_
            rw [exec_If]
            refine wpAny_bind (wpAny_standAt (wpAny_bind (S0.ts (s := { s with heap := h2, toks := t2 }) hA ht2 ca I2 RF.t1 fun h3 t3 σ3 I3 st3 ht3 => ?_)))
            rw [if_neg Bool.false_ne_true]
            cases cc with
            | cons cd _ =>
              cases cd with
              | ifs cda _ cdc =>
                refine wpAny_execs_cons ?_
                rw [exec_If]
                refine wpAny_bind (wpAny_standAt (wpAny_bind (S0.ts (s := { s with heap := h3, toks := t3 }) hA ht3 cda I3 RF.t2 fun h4 t4 σ4 I4 st4 ht4 => ?_)))
                rw [if_neg Bool.false_ne_true]
                cases cdc with
                | cons ce _ =>
                  cases ce with
                  | ifs cea _ cec =>
                    refine wpAny_execs_cons ?_
                    rw [exec_If]
                    refine wpAny_bind (wpAny_standAt (wpAny_bind (S0.ts (s := { s with heap := h4, toks := t4 }) hA ht4 cea I4 RF.t3 fun h5 t5 σ5 I5 st5 ht5 => ?_)))
                    rw [if_neg Bool.false_ne_true]
                    cases cec with
                    | cons cr _ =>
                      refine wpAny_execs_cons (raise_st (s := { s with heap := h5, toks := t5 }) G hA1 cr I5 fun h6 t6 x vs hx => ?_)
                      -- all that stood before the call stands
                      have live : ∀ {b : Addr} {o : Obj}, s.heap.get? b = some o → b ≠ cenv.locals := fun {b o} e q => by rw [q, hL] at e; cases e
                      have keep : ∀ b o, s.heap.get? b = some o → h5.get? b = some o := fun b o e => by
                        have hz : fm1.fz = 1 := hf2
                        rw [hz] at st3 st4 st5
                        obtain ⟨y1, z1⟩ := good_step hL ⟨τ, rfl, hτ⟩ hk1 st2
                        obtain ⟨y2, z2⟩ := good_step hL y1 z1 st3
                        obtain ⟨y3, z3⟩ := good_step hL y2 z2 st4
                        exact (good_step hL y3 z3 st5).2 b o e
                      have hk5 : base.StaysIn h5 := fun b o e => keep b o (hkb b o e)
                      have hl5 : h5.FunFrames base (cenv :: outer) := by
                        obtain ⟨m, ⟨oL, es, ep, eL, dL, _⟩, _⟩ := I5.ns
                        refine ⟨by rw [I5.kind]; simp, ⟨cenv.locals, oL, hcf, ?_, eL, fun vs q => by rw [dL] at q; cases q⟩, hl.of_keeps fun b o e _ => ⟨o, keep b o e, rfl⟩⟩
                        cases q : base.get? cenv.locals with
                        | none => rfl
                        | some o => have := hkb _ o q; rw [hL] at this; cases this
                      refine wpAny_leaves_madeW (Around.frames_deeper hfr) hcf hk5 hl5 hx fun h7 t x1 x2 x3 x4 => ?_
                      exact k h7 t6 x _ x1 (((Heap.UpToSlots.of_keeps keep).trans (Heap.UpToSlots.of_keeps hx.keeps)).trans x4))
  obtain ⟨a, o, fd, g1, g2, g3, g4⟩ := core
  exact ⟨a, o, fd, g1, g2, g3, wpAny_call g4⟩
end
end Mine
end
section
open PySem PySem.Calls PyProof.Rows PySem.W PySem.SeqAt
namespace Mine
set_option maxRecDepth 100000
set_option autoImplicit false
set_option linter.unusedVariables false

theorem te_exc : isSubtype (.type "TypeError") (.type "BaseException") = pure true := by rw [isSubtype_type]; kernel_rfl
theorem te_self : isSubtype (.type "TypeError") (.type "TypeError") = pure true := by rw [isSubtype_type]; kernel_rfl
theorem te_nt : isSubtype (.type ((Manifest.find? "TypeError").elim "type" fun x => x.metatype)) (.type "tuple") = pure false := by kernel_rfl

def RefusesE (fn : FnD) : Prop := ∃ a1 a2 a3 rest fm1 H0, Refuses fn a1 a2 a3 rest fm1 H0
theorem refuses_mk : RefusesE f_mk := ⟨_, _, _, _, ⟨(mkF [.ref 0] f_mk.sl [.list [.none]]).1.set 1 (.loc (some .none)), 1⟩, [.list [.none]], ⟨by rfl, rfl, rfl, by kernel_rfl, by kernel_rfl, by kernel_rfl, by kernel_rfl, by kernel_rfl⟩⟩
theorem refuses_un : RefusesE f_un := ⟨_, _, _, _, ⟨(mkF [.ref 0] f_un.sl [.list [.none]]).1.set 1 (.loc (some .none)), 1⟩, [.list [.none]], ⟨by rfl, rfl, rfl, by kernel_rfl, by kernel_rfl, by kernel_rfl, by kernel_rfl, by kernel_rfl⟩⟩
theorem refuses_cw : RefusesE f_cw := ⟨_, _, _, _, ⟨(mkF [.ref 0] f_cw.sl [.list [.none]]).1.set 1 (.loc (some .none)), 1⟩, [.list [.none], .cell none], ⟨by rfl, rfl, rfl, by kernel_rfl, by kernel_rfl, by kernel_rfl, by kernel_rfl, by kernel_rfl⟩⟩

section
variable {prog : Program} {w : World} {ρ : Nat → Int} {hb : Heap} {mg mb : Str → Option Value} {nm : Nm} {env : Env} {fm : Fm} {H : List O} {σ : List Addr} {s : Shared} {A : Around}

theorem Inv.keptLX {h h' : Heap} {m : Str → Option Value} {L2 : Addr} (I : Inv ρ hb nm env fm H σ h) (hn' : h'.Ns env.locals m) (hm : SlRs ρ σ m env.cells nm fm.sl) (h2 : hb.get? L2 = none) (h3 : L2 ∉ σ) (hk : ∀ b o, b ≠ env.locals → b ≠ L2 → h.get? b = some o → h'.get? b = some o) :
    Inv ρ hb nm env fm H σ h' :=
  { I with
    base := fun b o e => hk b o (fun q => by rw [q, I.lb] at e; cases e) (fun q => by rw [q, h2] at e; cases e) (I.base b o e)
    ns := ⟨m, hn', hm⟩
    hr := ⟨I.hr.len, fun n o a e e' => by have := (I.hr.obj n o a e e').ext (τ := []) fun ob q => hk a ob (fun z => I.loc (z ▸ List.mem_of_getElem? e')) (fun z => h3 (z ▸ List.mem_of_getElem? e')) q; simpa using this⟩ }

theorem ns_obj {h : Heap} {L : Addr} {m : Str → Option Value} (hn : h.Ns L m) : ∃ o, h.get? L = some o ∧ ∀ vs, o.data ≠ .fields vs := by
  obtain ⟨o, es, ep, e, d, _⟩ := hn
  exact ⟨o, e, fun vs q => by rw [d] at q; cases q⟩

theorem try_step (G : GF hb mg mb) (FS : FnsOK hb mg PP) {E : Value → Shared → Prop} {Q : Flow → Shared → Prop} {e : PySem.Stmt} {kk : Nat} {fn : FnD} {z : Int} {envL : Env} {mL : Str → Option Value} {D a1 : Addr} {j : Nat} {xs : List V} {nc : Nat}
    (c : CSt nm e (.trc kk (.loc 0) [.exp (.app (.loc 1) (.cst (.int z)))])) (hfn : PP[kk]? = some fn) (RF : RefusesE fn) (I : Inv ρ hb nm env fm H σ s.heap)
    (l0 : fm.sl[0]? = some (.loc (some (.ref 0)))) (s0 : σ[0]? = some D) (hD : s.heap.get? D = some (listOf (List.toArray [Value.none]) nc)) (l1 : fm.sl[1]? = some (.loc (some (.ref j)))) (hj : getL H j = some xs) (hj1 : fm.fz ≤ j) (hx : xs.length ≤ 100) (s1 : σ[j]? = some a1)
    (hA1 : A.handled = none) (hA2 : A.depth < 490) (hA3 : A.units < 900) (hfr : A.frames = some [env, envL]) (hf : env.frame = some env.locals) (hfL : envL.frame = some envL.locals) (hkL : envL.scope.kind = .function)
    (hbL : hb.get? envL.locals = none) (hnL : s.heap.Ns envL.locals mL) (hLL : envL.locals ≠ env.locals) (hLs : envL.locals ∉ σ) (ht : 1 ≤ s.toks)
    (k : ∀ h' tk, 1 ≤ tk → Inv ρ hb nm env fm (H.set j (.list (xs ++ [.int z]))) σ h' → (∀ b o, b ≠ env.locals → b ≠ envL.locals → b ≠ a1 → s.heap.get? b = some o → h'.get? b = some o) → h'.Ns envL.locals mL → Q .next { s with heap := h', toks := tk }) :
    wpAny (model prog w) A (exec e env) Q E s := by
  obtain ⟨_, _, _, _, _, _, RF⟩ := RF
  cases c with
  | @trc p q r t f a x h0 hs pp qq x' _ hfk hgl hdb hst ca hgT csu =>
    obtain ⟨af, of, fd, _, _, _, hmg, hof, hdf, _⟩ := (FS kk f fn hfk hfn).ex
    obtain ⟨m, hn, hm⟩ := I.ns
    obtain ⟨oR, eR, dR⟩ := ns_obj hn
    obtain ⟨oL, eL, dL⟩ := ns_obj hnL
    have hkb : (mask [env.locals, envL.locals] s.heap).StaysIn s.heap := fun b o e => by
      by_cases hb' : b ∈ [env.locals, envL.locals]
      · rw [mask_in hb'] at e; cases e
      · rwa [mask_out hb'] at e
    have hl : s.heap.FunFrames (mask [env.locals, envL.locals] s.heap) [env, envL] :=
      ⟨by rw [I.kind]; simp, ⟨env.locals, oR, hf, mask_in (by simp), eR, dR⟩, by rw [hkL]; simp, ⟨envL.locals, oL, hfL, mask_in (by simp), eL, dL⟩, trivial⟩
    -- what the flight leaves as it was
    have still : ∀ {h' : Heap}, (mask [env.locals, envL.locals] s.heap).StaysIn h' → s.heap.UpToSlots h' → Inv ρ hb nm env fm H σ h' ∧ (∀ b o, b ≠ env.locals → b ≠ envL.locals → s.heap.get? b = some o → h'.get? b = some o) ∧ h'.Ns envL.locals mL := fun {h'} k1 k2 => by
      have kk : ∀ b o, b ≠ env.locals → b ≠ envL.locals → s.heap.get? b = some o → h'.get? b = some o := fun b o n1 n2 e => k1 b o (by rw [mask_out (by simp [n1, n2])]; exact e)
      exact ⟨I.keptLX (k2.ns hn) hm hbL hLs kk, kk, k2.ns hnL⟩
    refine wpAny_Try_except (wpAny_execs_cons (wpAny_Expr_any ?_ ?_ rfl))
    · refine wpAny_Call_NameR (Name_function_global I.kind (I.kof hgl) (loadGlobal_global (mg := mg) (by rw [I.glob]; exact G.g.keeps I.base) hmg ?_) hdb)
      rw [star_cons hst]
      refine callWith_of (P := fun h => ∀ b o, hb.get? b = some o → h.get? b = some o) rfl (fun h X => ⟨.frame, .inl rfl, keeper_fn (X af of hof) hdf⟩) ?_
      refine evalArgs_plain (spliced_cons ?_)
      cases ca with
      | loc n pn _ i1 i2 i3 =>
        refine wpAny_Name (I.locV i1 i2 l0 fun v' hv => ?_) i3
        obtain ⟨D', eD', rfl⟩ := hv.refE
        rw [s0] at eD'; cases eD'
        refine spliced_nil ⟨I.base, ?_⟩
        obtain ⟨a', o', fd', hmg', _, _, hcall⟩ := raise_call (prog := prog) (w := w) (base := mask [env.locals, envL.locals] s.heap) (outer := [env, envL]) (Q := fun _ _ => False)
          (E := fun e s₁ => wpAny (model prog w) A (noteFrame e env) (fun _ s₂ => wpAny (model prog w) A (setFlight e none) (fun _ s₃ => wpAny (model prog w) A (handleBy e env [.ExceptHandler (some (.Name "TypeError" pp)) none (h0 :: hs) qq]) Q E s₃) E s₂) E s₁)
          G FS (FS kk f fn hfk hfn) RF hA1 (by omega) (by omega) hfr ht I.base hD hkb hl fun h2 t2 x a0 F2 U2 => by
            refine wpAny_looks_onW hfr hf F2 fun h3 F3 U3 => ?_
            refine wpAny_landsW F3 fun h4 F4 U4 => ?_
            have U24 := (U2.trans U3).trans U4
            obtain ⟨I4, k4, n4⟩ := still F4.1 U24
            refine wpAny_handleBy_builtin (X := "TypeError") (T := "TypeError") (b := true) te_exc te_nt te_self ?_
            refine S_glob (s := { s with heap := h4, toks := t2 }) G I4 hgT (by decide +kernel) (by rfl) ⟨rfl, F4.there, ?_⟩
            rw [if_pos rfl]
            refine wpAny_setFlight_noneW F4.1 F4.2.2.1 F4.2.2.2.at fun h5 g1 g2 g3 g4 => ?_
            have U25 : s.heap.UpToSlots h5 := U24.trans fun b o e hn' => ⟨o.slots, g4 b o e hn'⟩
            obtain ⟨I5, k5, n5⟩ := still g1 U25
            cases csu with
            | cons cx cn =>
              cases cn
              cases cx with
              | exp hce cex =>
                cases cex with
                | app hss hll cn0 cn1 =>
                  cases cn0 with
                  | loc n2 pn2 _ j1 j2 j3 =>
                    cases cn1 with
                    | int _ kq pq =>
                      refine wpAny_execs_cons (wpAny_Expr_any ?_ ?_ rfl)
                      · refine Call_method1 rfl (star_cons hss) hll (wpAny_Name (I5.locV (s := { s with heap := h5, toks := t2 }) j1 j2 l1 fun v1 hv1 => ?_) j3)
                        obtain ⟨a1', e1', rfl⟩ := hv1.refE
                        rw [s1] at e1'; cases e1'
                        obtain ⟨a', vs, c', e1, e2, e3⟩ := I5.list hj
                        rw [s1] at e1; cases e1
                        refine list_method e2 F.slot_list_append F.type_list_append (PySem.P.append_list (wpAny_Constant_int ?_))
                        refine ⟨vs.toArray, c', by rw [List.size_toArray, e3.length, sizeLine_eq]; omega, e2, ?_⟩
                        refine wpAny_execs_nil ?_
                        obtain ⟨c2, hc2⟩ := upd_list e2 (fun y => y.push (.int z t2)) (us := vs ++ [.int z t2]) (by simp)
                        have hsb := Heap.SameBut.update h5 a1 (Obj.mapSeq fun y => y.push (.int z t2))
                        have hne : envL.locals ≠ a1 := fun q => hLs (q ▸ List.mem_of_getElem? s1)
                        refine k _ _ ?_ (I5.upd hj1 (getL_some hj) s1 hsb ⟨_, c2, hc2, e3.snoc (.int _ _)⟩) (fun b o n1 n2 n3 e => (hsb.2 b n3).trans (k5 b o n1 n2 e)) (n5.sameBut hsb hne)
                        exact Nat.le_add_left _ _
                      · unfold interactive; rw [I.kind]; rfl
        rw [hmg] at hmg'
        cases hmg'
        exact wpAny_mono hcall (fun _ _ x => x.elim) fun _ _ x => x
    · unfold interactive; rw [I.kind]; rfl
end
end Mine
end
section
open PySem PySem.Calls PyProof.Rows PySem.W PySem.SeqAt
namespace Mine
set_option maxRecDepth 100000
set_option autoImplicit false
set_option linter.unusedVariables false

def rfSl : List Sl := [.loc (some (.ref 0)), .loc none, .oth, .oth, .oth, .oth]
def rfSl1 : List Sl := [.loc (some (.ref 0)), .loc (some (.ref 1)), .oth, .oth, .oth, .oth]
theorem rf_first : stF (run ⟨none, []⟩ PP 6) ⟨rfSl, 1⟩ [.list [.none]] (.asg (.loc 1) (.lst [])) = some (.next, ⟨rfSl1, 1⟩, [.list [.none], .list []]) := by kernel_rfl
theorem rf_last : stF (run ⟨none, []⟩ PP 6) ⟨rfSl1, 1⟩ [.list [.none], .list [.int 1, .int 2, .int 3]] (.ret (.cmp .eq (.loc 1) (.lst [.cst (.int 1), .cst (.int 2), .cst (.int 3)]))) = some (.ret (.bool true), ⟨rfSl1, 1⟩, [.list [.none], .list [.int 1, .int 2, .int 3], .list [.int 1, .int 2, .int 3]]) := by kernel_rfl

theorem good_step2 {s0 hx hy : Heap} {D LL : Addr} {mL : Str → Option Value} {cenv : Env} {σx σy : List Addr} (hL : s0.get? cenv.locals = none) (hLs : ∃ o, s0.get? LL = some o) (hLD : LL ≠ D) (g : ∃ τ', σx = [D] ++ τ' ∧ ∀ a ∈ τ', s0.get? a = none) (hfx : ∀ a, hx.get? a = none → s0.get? a = none)
    (hk : ∀ b o, b ≠ LL → s0.get? b = some o → hx.get? b = some o) (hn : hx.Ns LL mL) (st : Step cenv 1 σx hx σy hy) :
    (∃ τ', σy = [D] ++ τ' ∧ ∀ a ∈ τ', s0.get? a = none) ∧ (∀ b o, b ≠ LL → s0.get? b = some o → hy.get? b = some o) ∧ hy.Ns LL mL := by
  obtain ⟨τ', rfl, f'⟩ := g
  have notin : ∀ b, (∃ o, s0.get? b = some o) → ∀ n, 1 ≤ n → ([D] ++ τ')[n]? ≠ some b := fun b ⟨o, e⟩ n hn q => by
    rw [List.getElem?_append_right hn] at q
    rw [f' b (List.mem_of_getElem? q)] at e
    cases e
  refine ⟨?_, fun b o hb e => ?_, ?_⟩
  · obtain ⟨τ2, rfl, f2⟩ := st.ext
    refine ⟨τ' ++ τ2, by rw [List.append_assoc], fun a ha' => ?_⟩
    rcases List.mem_append.mp ha' with q | q
    · exact f' a q
    · exact hfx a (f2 a q)
  · exact st.keep b o (fun q => by rw [q, hL] at e; cases e) (notin b ⟨o, e⟩) (hk b o hb e)
  · refine hn.at fun o e => st.keep LL o (fun q => ?_) (notin LL hLs) e
    obtain ⟨o', e'⟩ := hLs
    rw [q, hL] at e'
    cases e'

section
variable {prog : Program} {w : World} {hb : Heap} {mg mb : Str → Option Value} {s : Shared} {A : Around}

theorem refused_run (G : GF hb mg mb) (FS : FnsOK hb mg PP) (FR : FnOK hb mg "_law_refused" f_rf) {D : Addr} {nc : Nat} {envL : Env} {mL : Str → Option Value} {E Q : Value → Shared → Prop}
    (hA1 : A.handled = none) (hA2 : A.depth < 450) (hA3 : A.units < 800) (hfr : A.frames = some [envL]) (hfL : envL.frame = some envL.locals) (hkL : envL.scope.kind = .function) (hbL : hb.get? envL.locals = none) (hnL : s.heap.Ns envL.locals mL)
    (ht : 1 ≤ s.toks) (bs : ∀ b o, hb.get? b = some o → s.heap.get? b = some o) (hD : s.heap.get? D = some (listOf (List.toArray [Value.none]) nc))
    (k : ∀ h' tk, (∀ b o, b ≠ envL.locals → s.heap.get? b = some o → h'.get? b = some o) → h'.Ns envL.locals mL → Q (.bool true) { s with heap := h', toks := tk }) :
    ∃ a o fd, mg "_law_refused" = some (.ref a) ∧ hb.get? a = some o ∧ o.data = .func fd ∧ wpAny (model prog w) A (call (.ref a) [.ref D]) Q E s := by
  have hr0 : HR (fun _ => 0) [D] [.list [.none]] s.heap := ⟨rfl, fun n o a e e' => by
    cases n with
    | zero => simp at e e'; subst e; subst e'; exact ⟨[Value.none], nc, hD, .cons .none .nil⟩
    | succ n => simp at e⟩
  have OK0 : OrcOk ⟨none, []⟩ (fun _ => 0) := ⟨fun c e => by simp at e, fun d b e => by simp [bitAt] at e⟩
  have S0 := (sound_all (prog := prog) (w := w) (P := PP) OK0 G FS 6).1
  obtain ⟨oLL, eLL, dLL⟩ := ns_obj hnL
  have hLD : envL.locals ≠ D := fun q => by
    obtain ⟨o, es, ep, e, d, _⟩ := hnL
    rw [q, hD] at e
    cases e
    cases d
  have core := callCore (prog := prog) (w := w) (ρ := fun _ => 0) (s := s) (A := A) (H := [.list [.none]]) (σ := [D]) (vs := [.ref 0]) (vals := [.ref D]) (sl := rfSl) (H2 := [.list [.none]])
    (R := fun r s' => match r with | .ok (.ret v) => Q v s' | .ok _ => False | .error e => E e s') G FR (by show A.depth < 1000; omega) ht bs hr0 (by simp) (.cons (.ref 0 D rfl) .nil) rfl rfl
    (fun cenv nmf body h1 t1 τ hcf ht1 hcs I1 hτ hL hk1 => by
      have hA : OkA 6 (A.deeper cenv) := ⟨hA1, by show A.depth + 1 + 6 < 900; omega, by show A.units + 3 + 8 * 6 < 9000; omega⟩
      have hfr' : (A.deeper cenv).frames = some [cenv, envL] := Around.frames_deeper hfr
      have d2 : (A.deeper cenv).depth < 490 := by show A.depth + 1 < 490; omega
      have d3 : (A.deeper cenv).units < 900 := by show A.units + 3 < 900; omega
      have hLc : envL.locals ≠ cenv.locals := fun q => by rw [q, hL] at eLL; cases eLL
      have fresh : ∀ {hx : Heap}, (∀ b o, b ≠ envL.locals → s.heap.get? b = some o → hx.get? b = some o) → hx.Ns envL.locals mL → ∀ a, hx.get? a = none → s.heap.get? a = none := fun {hx} hk hn a e => by
        cases q : s.heap.get? a with
        | none => rfl
        | some o =>
          by_cases ha : a = envL.locals
          · obtain ⟨o', e', _⟩ := ns_obj hn
            rw [ha, e'] at e; cases e
          · rw [hk a o ha q] at e; cases e
      have hcs' : CSts nmf body (.asg (.loc 1) (.lst []) :: .trc 0 (.loc 0) [.exp (.app (.loc 1) (.cst (.int 1)))] :: .trc 1 (.loc 0) [.exp (.app (.loc 1) (.cst (.int 2)))] :: .trc 2 (.loc 0) [.exp (.app (.loc 1) (.cst (.int 3)))] :: [.ret (.cmp .eq (.loc 1) (.lst [.cst (.int 1), .cst (.int 2), .cst (.int 3)]))]) := hcs
      cases hcs' with
      | cons c0 hcs =>
        refine wpAny_execs_cons (S0.st (s := { s with heap := h1, toks := t1 }) hA ht1 c0 I1 rf_first fun f h2 t2 σ2 hf2 I2 st2 hr2 ht2 => ?_)
        cases f <;> first | exact hr2.elim | skip
        have k1 : ∀ b o, b ≠ envL.locals → s.heap.get? b = some o → h1.get? b = some o := fun b o _ e => hk1 b o e
        have n1 : h1.Ns envL.locals mL := hnL.keeps hk1
        obtain ⟨y2, z2, n2⟩ := good_step2 hL ⟨_, eLL⟩ hLD ⟨τ, rfl, hτ⟩ (fresh k1 n1) k1 n1 st2
        obtain ⟨τ2, e2, f2⟩ := y2
        have s0 : σ2[0]? = some D := by rw [e2]; rfl
        have hlen : σ2.length = 2 := I2.hr.len
        obtain ⟨a1, s1⟩ : ∃ a1, σ2[1]? = some a1 := ⟨σ2[1], List.getElem?_eq_getElem (by omega)⟩
        have fa1 : s.heap.get? a1 = none := by
          rw [e2, List.getElem?_append_right (by simp)] at s1
          exact f2 a1 (List.mem_of_getElem? s1)
        have hLs : envL.locals ∉ σ2 := fun hm => by
          rw [e2] at hm
          rcases List.mem_append.mp hm with q | q
          · simp at q; exact hLD q
          · rw [f2 _ q] at eLL; cases eLL
        have next : ∀ {hx hy : Heap}, (∀ b o, b ≠ envL.locals → s.heap.get? b = some o → hx.get? b = some o) → (∀ b o, b ≠ cenv.locals → b ≠ envL.locals → b ≠ a1 → hx.get? b = some o → hy.get? b = some o) → ∀ b o, b ≠ envL.locals → s.heap.get? b = some o → hy.get? b = some o :=
          fun {hx hy} g1 g2 b o hb e => g2 b o (fun q => by rw [q, hL] at e; cases e) hb (fun q => by rw [q, fa1] at e; cases e) (g1 b o hb e)
        cases hcs with
        | cons c1 hcs =>
          refine wpAny_execs_cons (try_step (s := { s with heap := h2, toks := t2 }) G FS c1 rfl refuses_mk I2 rfl s0 (z2 D _ (Ne.symm hLD) hD) rfl (j := 1) rfl (Nat.le_refl 1) (by decide) s1 hA1 d2 d3 hfr' hcf hfL hkL hbL n2 hLc hLs ht2 fun h3 t3 ht3 I3 g3 n3 => ?_)
          have z3 := next z2 g3
          cases hcs with
          | cons c2 hcs =>
            refine wpAny_execs_cons (try_step (s := { s with heap := h3, toks := t3 }) G FS c2 rfl refuses_un I3 rfl s0 (z3 D _ (Ne.symm hLD) hD) rfl (j := 1) rfl (Nat.le_refl 1) (by decide) s1 hA1 d2 d3 hfr' hcf hfL hkL hbL n3 hLc hLs ht3 fun h4 t4 ht4 I4 g4 n4 => ?_)
            have z4 := next z3 g4
            cases hcs with
            | cons c3 hcs =>
              refine wpAny_execs_cons (try_step (s := { s with heap := h4, toks := t4 }) G FS c3 rfl refuses_cw I4 rfl s0 (z4 D _ (Ne.symm hLD) hD) rfl (j := 1) rfl (Nat.le_refl 1) (by decide) s1 hA1 d2 d3 hfr' hcf hfL hkL hbL n4 hLc hLs ht4 fun h5 t5 ht5 I5 g5 n5 => ?_)
              have z5 := next z4 g5
              cases hcs with
              | cons c4 hcs =>
                refine wpAny_execs_cons (S0.st (s := { s with heap := h5, toks := t5 }) hA ht5 c4 I5 rf_last fun f h6 t6 σ6 hf6 I6 st6 hr6 ht6 => ?_)
                cases f with
                | ret v' =>
                  have := VR.boolE (show VR (fun _ => 0) σ6 (.bool true) v' from hr6)
                  subst this
                  obtain ⟨_, z6, n6⟩ := good_step2 hL ⟨_, eLL⟩ hLD ⟨τ2, e2, f2⟩ (fresh z5 n5) z5 n5 st6
                  exact k h6 t6 z6 n6
                | _ => exact hr6.elim)
  obtain ⟨a, o, fd, g1, g2, g3, g4⟩ := core
  exact ⟨a, o, fd, g1, g2, g3, wpAny_call g4⟩
end
end Mine
end
section
open PySem PySem.Calls PyProof.Rows PySem.W PySem.SeqAt
namespace Mine
set_option maxRecDepth 100000
set_option autoImplicit false
set_option linter.unusedVariables false

theorem csts_append {nm : Nm} : ∀ {xs ys : List S} {l : List PySem.Stmt}, CSts nm l (xs ++ ys) → ∃ l1 l2, l = l1 ++ l2 ∧ CSts nm l1 xs ∧ CSts nm l2 ys
  | [], ys, l, h => ⟨[], l, rfl, .nil, h⟩
  | x :: xs, ys, l, h => by
    have h' : CSts nm l (x :: (xs ++ ys)) := h
    cases h' with
    | cons a b =>
      obtain ⟨l1, l2, rfl, c, d⟩ := csts_append b
      exact ⟨_ :: l1, l2, rfl, .cons a c, d⟩
theorem ces_append {nm : Nm} : ∀ {xs ys : List X} {l : List PySem.Expr}, CEs nm l (xs ++ ys) → ∃ l1 l2, l = l1 ++ l2 ∧ CEs nm l1 xs ∧ CEs nm l2 ys
  | [], ys, l, h => ⟨[], l, rfl, .nil, h⟩
  | x :: xs, ys, l, h => by
    have h' : CEs nm l (x :: (xs ++ ys)) := h
    cases h' with
    | cons s a b =>
      obtain ⟨l1, l2, rfl, c, d⟩ := ces_append b
      exact ⟨_ :: l1, l2, rfl, .cons s a c, d⟩
section
variable {prog : Program} {w : World} {ρ : Nat → Int} {hb : Heap} {r : Rec} {n : Nat} {nm : Nm} {env : Env} {fm : Fm} {A : Around} {E : Value → Shared → Prop}
theorem stL_pre (IH : Sound prog w ρ hb r n) (hA : OkA n A) {l2 : List PySem.Stmt} {l : List PySem.Stmt} {xs : List S} (c : CSts nm l xs) : ∀ {fm fm1 : Fm} {H H' : List O} {σ : List Addr} {s : Shared} {Q : Flow → Shared → Prop},
    1 ≤ s.toks → Inv ρ hb nm env fm H σ s.heap → stL r fm H xs = some (.next, fm1, H') → PostS ρ hb nm env fm σ s H' fm1 .next (fun _ s' => 1 ≤ s'.toks → wpAny (model prog w) A (execs l2 env) Q E s') → wpAny (model prog w) A (execs (l ++ l2) env) Q E s := by
  induction l generalizing xs with
  | nil =>
    intro fm fm1 H H' σ s Q ht I h k
    cases c
    simp only [stL, Option.some.injEq, Prod.mk.injEq] at h
    obtain ⟨_, rfl, rfl⟩ := h
    exact k .next s.heap s.toks σ rfl I Step.refl trivial ht
  | cons e es ih =>
    intro fm fm1 H H' σ s Q ht I h k
    cases c with
    | @cons _ x _ xs h1 h2 =>
      simp only [stL] at h
      split at h
      · rename_i fm2 H2 q
        refine wpAny_execs_cons (IH.st hA ht h1 I q fun f h' tk σ' hf I' st hr ht' => ?_)
        cases f <;> first | exact hr.elim | skip
        exact ih (s := { s with heap := h', toks := tk }) h2 ht' I' h (PostS.on (s := s) k hf I' st)
      · simp at h
      · cases h

theorem or_pre (IH : Sound prog w ρ hb r n) (hA : OkA n A) {p : Pos} {whole : Sem Value} {rest : List PySem.Expr} {l : List PySem.Expr} {xs : List X} (c : CEs nm l xs) : ∀ {H : List O} {σ : List Addr} {s : Shared} {H' : List O} {Q : Bool → Shared → Prop},
    1 ≤ s.toks → Inv ρ hb nm env fm H σ s.heap → allT r fm false H xs = some (false, H') → PostB ρ hb nm env fm σ s H' false (fun _ s' => 1 ≤ s'.toks → wpAny (model prog w) A (isTrue (.BoolOp .Or rest p) env whole) Q E s') → wpAny (model prog w) A (isTrue (.BoolOp .Or (l ++ rest) p) env whole) Q E s := by
  induction l generalizing xs with
  | nil =>
    intro H σ s H' Q ht I h k
    cases c
    simp only [allT, Option.some.injEq, Prod.mk.injEq] at h
    obtain ⟨_, rfl⟩ := h
    exact k s.heap s.toks σ I Step.refl ht
  | cons e es ih =>
    intro H σ s H' Q ht I h k
    cases c with
    | cons h1 h2 h3 =>
      simp only [allT] at h
      split at h
      · rename_i b1 H1 q1
        refine isTrue_or (IH.ts hA ht h2 I q1 fun h1 t1 σ1 I1 st1 ht1 => ?_)
        cases b1 with
        | true => simp at h
        | false =>
          rw [if_neg Bool.false_ne_true]
          simp only at h
          exact ih (s := { s with heap := h1, toks := t1 }) h3 ht1 I1 h (PostB.on (s := s) k I1 st1)
      · cases h
end

theorem tail_split : b_la.tail = b_pre ++ ((.ifs (.bop false (b_cs ++ [.inv .refu])) [.ret (.cst (.bool false))] []) :: b_post) := by rfl
theorem goodR_spec {x : Option (R × Fm × List O)} (h : goodR x = true) : ∃ fm H, x = some (.ret (.bool true), fm, H) := by
  unfold goodR at h
  split at h
  · exact ⟨_, _, rfl⟩
  · cases h
theorem rowOk_spec {n : Nat} {z : Int} {bits : List Bool} (h : rowOk n z bits = true) : ∃ fm3 H3 H4 fm5 H5, stL (run ⟨some z, bits⟩ PP n) ⟨lawSl, 0⟩ lawH b_pre = some (.next, fm3, H3) ∧ allT (run ⟨some z, bits⟩ PP n) fm3 false H3 b_cs = some (false, H4) ∧
    stL (run ⟨some z, bits⟩ PP n) fm3 H4 b_post = some (.ret (.bool true), fm5, H5) := by
  unfold rowOk at h
  split at h
  · rename_i fm3 H3 q1
    split at h
    · rename_i H4 q2
      obtain ⟨fm5, H5, q3⟩ := goodR_spec h
      exact ⟨fm3, H3, H4, fm5, H5, q1, q2, q3⟩
    · cases h
  · cases h

section
variable {prog : Program} {w : World} {ρ : Nat → Int} {hb : Heap} {mg mb : Str → Option Value} {nm : Nm} {env : Env} {s : Shared} {A : Around} {E : Value → Shared → Prop} {σ : List Addr}

theorem refu_eval (G : GF hb mg mb) (FS : FnsOK hb mg PP) (FR : FnOK hb mg "_law_refused" f_rf) {fm : Fm} {H : List O} {Q : Value → Shared → Prop} {e : PySem.Expr} (ce : CE nm e .refu) (I : Inv ρ hb nm env fm H σ s.heap)
    (hA1 : A.handled = none) (hA2 : A.depth < 402) (hA3 : A.units < 110) (hfr : A.frames = some [env]) (hf : env.frame = some env.locals) (ht : 1 ≤ s.toks)
    (k : ∀ h' tk, Inv ρ hb nm env fm H σ h' → Step env fm.fz σ s.heap σ h' → Q (.bool true) { s with heap := h', toks := tk }) : wpAny (model prog w) A (eval e env) Q E s := by
  cases ce with
  | refu hgl =>
    obtain ⟨a0, o0, fd0, _, _, _, hmg, hof, hdf, _⟩ := FR.ex
    obtain ⟨m, hn, hm⟩ := I.ns
    refine wpAny_Call_NameR (Name_function_global I.kind (I.kof hgl) (loadGlobal_global (mg := mg) (by rw [I.glob]; exact G.g.keeps I.base) hmg ?_) (by decide +kernel))
    rw [star_cons rfl]
    refine callWith_of (P := fun h => ∀ b o, hb.get? b = some o → h.get? b = some o) rfl (fun h X => ⟨.frame, .inl rfl, keeper_fn (X a0 o0 hof) hdf⟩) ?_
    refine evalArgs_plain (spliced_cons (wpAny_List_spliced ?_))
    rw [star_cons rfl]
    refine spliced_cons ?_
    refine wpAny_of_eq (a := Value.none) rfl ?_
    refine spliced_nil ⟨by rw [sizeLine_eq]; show 1 ≤ 16777216; decide, spliced_nil ⟨fun b o e => Heap.get?_push_of_some _ (I.base b o e), ?_⟩⟩
    obtain ⟨a', o', fd', hmg', _, _, hcall⟩ := refused_run (prog := prog) (w := w) (E := E) (Q := Q) (s := { s with heap := s.heap.push { cls := .type "list", data := .seq [Value.none].toArray } }) (D := s.heap.objs.size) (nc := 0) (mL := m) G FS FR hA1 (by omega) (by omega) hfr hf I.kind I.lb (hn.push _) ht
      (fun b o e => Heap.get?_push_of_some _ (I.base b o e)) (Heap.get?_push_size _ rfl) fun h' tk hk hn' => by
        have hk' : ∀ b o, b ≠ env.locals → s.heap.get? b = some o → h'.get? b = some o := fun b o hb e => hk b o hb (Heap.get?_push_of_some _ e)
        exact k h' tk (I.keptL hn' hm hk') (Step.keptL hk')
    rw [hmg] at hmg'
    cases hmg'
    exact hcall

theorem law_tail (G : GF hb mg mb) (FS : FnsOK hb mg PP) (FR : FnOK hb mg "_law_refused" f_rf) {z : Int} {bits : List Bool} {Q : Flow → Shared → Prop} {es : List PySem.Stmt} (OK1 : OrcOk ⟨some z, bits⟩ ρ) (row : rowOk 20 z bits = true) (ct : CSts nm es b_la.tail) (I3 : Inv ρ hb nm env ⟨lawSl, 0⟩ lawH σ s.heap)
    (hA1 : A.handled = none) (hA2 : A.depth < 402) (hA3 : A.units < 110) (hfr : A.frames = some [env]) (hf : env.frame = some env.locals) (ht : 1 ≤ s.toks)
    (k : ∀ h' tk, (∀ b o, hb.get? b = some o → h'.get? b = some o) → Q (.ret (.bool true)) { s with heap := h', toks := tk }) : wpAny (model prog w) A (execs es env) Q E s := by
  have S1 := (sound_all (prog := prog) (w := w) (P := PP) OK1 G FS 20).1
  have hA' : OkA 20 A := ⟨hA1, by omega, by omega⟩
  obtain ⟨fm3, H3, H4, fm5, H5, hpre, hor, hpost⟩ := rowOk_spec row
  rw [tail_split] at ct
  obtain ⟨l1, l2, rfl, ct1, ct2⟩ := csts_append ct
  refine stL_pre S1 hA' ct1 ht I3 hpre fun f h3 t3 σ3 hf3 I4 st3 _ ht3 => ?_
  cases ct2 with
  | cons ci cp =>
    cases ci with
    | @ifs t a b p _ _ _ cb ca cn =>
      cases cn
      refine wpAny_execs_cons ?_
      rw [exec_If]
      refine wpAny_bind (wpAny_standAt (wpAny_bind ?_))
      have cb' : ∃ l pp, t = .BoolOp .Or l pp ∧ CEs nm l (b_cs ++ [.inv .refu]) := by
        generalize hb' : X.bop false (b_cs ++ [.inv .refu]) = xx at cb
        cases cb <;> first | cases hb' | skip
        rename_i l xs op pp c
        cases op with
        | And => simp [bopB] at hb'
        | Or =>
          simp [bopB] at hb'
          subst hb'
          exact ⟨l, pp, rfl, c⟩
      obtain ⟨l, pp, rfl, cbs⟩ := cb'
      obtain ⟨e1, e2, rfl, ce1, ce2⟩ := ces_append cbs
      refine or_pre (s := { s with heap := h3, toks := t3 }) S1 hA' ce1 ht3 I4 hor fun h4 t4 σ4 I5 st4 ht4 => ?_
      cases ce2 with
      | cons hst c4 c5 =>
        cases c5
        cases c4 with
        | inv cr =>
          refine isTrue_or (isTrue_not ?_)
          have cr' := cr
          cases cr' with
          | refu _ =>
            refine isTrue_plain (wpAny_with_toks (n := 1) ht4 (refu_eval (s := { s with heap := h4, toks := t4 }) G FS FR cr I5 hA1 hA2 hA3 hfr hf ht4 fun h5 t5 I6 st5 ht5 => wpAny_truthy_bool ?_)) rfl
            rw [if_neg (by decide)]
            refine isTrue_or_nil ?_
            rw [if_neg Bool.false_ne_true]
            refine wpAny_execs_nil ?_
            refine stL_sound (s := { s with heap := h5, toks := t5 }) S1 hA' cp ht5 I6 hpost fun f h6 t6 σ6 hf6 I7 st6 hr6 _ => ?_
            cases f with
            | ret v' =>
              have := VR.boolE (show VR ρ σ6 (.bool true) v' from hr6)
              subst this
              exact k h6 t6 I7.base
            | _ => exact hr6.elim
end

theorem st0_marker : True := trivial

section
variable {p : Program} {loose : List Str} {mean : ExcName → Option Value} {mg mb : Str → Option Value} {h : Heap} {prog : Program} {w : World} {s : Shared} {A : Around}

theorem ok_la (T : Top p loose mean mg mb h) (hR : HasDef p "law") : FnOK h mg "law" f_la :=
  fnOK_plain (x := "script") (nm := n_la) T hR (by decide +kernel) (by rfl) (by rfl) (by rfl) (by decide +kernel) rfl (by decide +kernel) (.inl (by decide +kernel)) c_la rfl (fun v pm cd doc => by kernel_rfl)

theorem ok_rf (T : Top p loose mean mg mb h) (hR : HasDef p "_law_refused") : FnOK h mg "_law_refused" f_rf :=
  fnOK_plain (x := "bad") (nm := n_rf) T hR (by decide +kernel) (by rfl) (by rfl) (by rfl) (by decide +kernel) rfl (by decide +kernel) (.inl (by decide +kernel)) c_rf rfl (fun v pm cd doc => by kernel_rfl)

theorem run_stS (K : Orc) (P : List FnD) (m : Nat) : (run K P (m + 1)).st = stF (run K P m) := rfl
theorem st0_cons : b_la = st0 :: b_la.tail := by rfl

set_option maxHeartbeats 0 in
theorem law_run (T : Top p loose mean mg mb h) (W : FnOK h mg wcN f_wc) (D : Defs p) (hbk : NoneBooked h) (hfree : ∀ x ∈ biNames, x ∉ startupNames ∧ x ∉ loose ∧ x ∉ (recsOf p).map (·.name) ∧ x ∉ (litsOf p).map (·.1) ∧ x ∉ (clssOf p loose).map (·.name))
    (RW : RowsOK) {vals : List Value} {ns : List Int} {c : Nat} {Dd : Addr} (hs : s.heap = h) (ht : 1 ≤ s.toks) (hD : h.get? Dd = some (listOf (List.toArray vals) c)) (hi : IntsAre vals ns) (hn : ns.length < 64)
    (hA1 : A.handled = none) (hA2 : A.depth < 400) (hA3 : A.units < 100) (hA0 : A.frames = some []) {E Q : Value → Shared → Prop} (k : ∀ h' tk, (∀ b o, h.get? b = some o → h'.get? b = some o) → Q (.bool true) { s with heap := h', toks := tk }) :
    ∃ a o fd, mg "law" = some (.ref a) ∧ h.get? a = some o ∧ o.data = .func fd ∧ wpAny (model prog w) A (call (.ref a) [.ref Dd]) Q E s := by
  subst hs
  have G := gf_ok T hbk hfree
  have FS := fns_ok T W D
  have FR := ok_rf T D.d_rf
  let ρ : Nat → Int := fun j => ns.getD j 0
  have hsc : VRs ρ [Dd] (scr ns.length) vals := by
    have := script_rel (ρ := ρ) (σ := [Dd]) 0 hi fun i _ => by simp [ρ]
    rw [List.range'_eq_map_range] at this
    simpa [scr] using this
  have hr0 : HR ρ [Dd] [.list (scr ns.length)] s.heap := ⟨rfl, fun n o a e e' => by
    cases n with
    | zero => simp at e e'; subst e; subst e'; exact ⟨vals, c, hD, hsc⟩
    | succ n => simp at e⟩
  have OK0 : OrcOk ⟨none, []⟩ ρ := ⟨fun c e => by simp at e, fun d b e => by simp [bitAt] at e⟩
  have hF := first_all ns.length hn
  unfold FirstIs at hF
  rw [← run_stS] at hF
  have core := callCore (prog := prog) (w := w) (ρ := ρ) (s := s) (A := A) (H := [.list (scr ns.length)]) (σ := [Dd]) (vs := [.ref 0]) (vals := [.ref Dd]) (sl := (mkF [.ref 0] f_la.sl [.list (scr ns.length)]).1) (H2 := (mkF [.ref 0] f_la.sl [.list (scr ns.length)]).2)
    (R := fun r s' => match r with | .ok (.ret v) => Q v s' | .ok _ => False | .error e => E e s') G (ok_la T D.d_la) (by show A.depth < 1000; omega) ht (fun b o e => e) hr0 (by simp) (.cons (.ref 0 Dd rfl) .nil) rfl rfl
    (fun cenv nmf body h1 t1 τ hcf ht1 hcs I1 hτ hL hk1 => by
      have hA : OkA (12 + 1) (A.deeper cenv) := ⟨hA1, by show A.depth + 1 + (12 + 1) < 900; omega, by show A.units + 3 + 8 * (12 + 1) < 9000; omega⟩
      have S0 := (sound_all (prog := prog) (w := w) (P := PP) OK0 G FS (12 + 1)).1
      have hcs' : CSts nmf body (st0 :: b_la.tail) := hcs
      cases hcs' with
      | @cons e0 _ es _ c0 ct =>
        refine wpAny_execs_cons (S0.st (s := { s with heap := h1, toks := t1 }) hA ht1 c0 I1 hF fun f h2 t2 σ2 hf2 I2 st2 hr2 ht2 => ?_)
        cases f <;> first | exact hr2.elim | skip
        -- the numbers
        obtain ⟨L, eL, nv, nc, oL, nr⟩ := I2.hr.at (n := 5) rfl
        obtain ⟨ρ', hρ'⟩ := nums_rel ns.length nr
        obtain ⟨c1, e1, o1⟩ := I2.hr.at (n := 1) rfl
        obtain ⟨c2, e2, o2⟩ := I2.hr.at (n := 2) rfl
        obtain ⟨c3, e3, o3⟩ := I2.hr.at (n := 3) rfl
        have d1 := I2.mtb 1 c1 (show 1 ≤ 1 by decide) e1
        have d2 := I2.mtb 2 c2 (show 1 ≤ 2 by decide) e2
        have d3 := I2.mtb 3 c3 (show 1 ≤ 3 by decide) e3
        have dL := I2.mtb 5 L (show 1 ≤ 5 by decide) eL
        have nodup : [c1, c2, c3, L].Nodup := by
          have n12 : c1 ≠ c2 := fun q => by have := nodup_get I2.nodup e1 (q ▸ e2); omega
          have n13 : c1 ≠ c3 := fun q => by have := nodup_get I2.nodup e1 (q ▸ e3); omega
          have n1L : c1 ≠ L := fun q => by have := nodup_get I2.nodup e1 (q ▸ eL); omega
          have n23 : c2 ≠ c3 := fun q => by have := nodup_get I2.nodup e2 (q ▸ e3); omega
          have n2L : c2 ≠ L := fun q => by have := nodup_get I2.nodup e2 (q ▸ eL); omega
          have n3L : c3 ≠ L := fun q => by have := nodup_get I2.nodup e3 (q ▸ eL); omega
          simp [n12, n13, n1L, n23, n2L, n3L]
        have I3 : Inv ρ' s.heap nmf cenv ⟨lawSl, 0⟩ lawH [c1, c2, c3, L] h2 :=
          { kind := I2.kind
            names := I2.names
            glob := I2.glob
            bt := I2.bt
            base := I2.base
            nd := I2.nd
            ns := by
              obtain ⟨m, hn', hm⟩ := I2.ns
              refine ⟨m, hn', ?_⟩
              rw [← slF_law ns.length]
              refine hm.map fun q sl hsl x => ?_
              obtain ⟨y, kd⟩ := q
              have hc : ∀ j, sl = .cel j → j = 1 ∨ j = 2 ∨ j = 3 := by
                intro j e
                subst e
                have : Sl.cel j ∈ ([.loc (some (.ref 0)), .cel 1, .loc none, .cel 2, .loc none, .loc none, .loc none, .loc none, .cel 3, .loc none, .loc none, .loc none, .loc none, .loc none, .loc none, .loc none, .oth, .oth, .oth, .oth, .oth, .oth, .oth, .oth, .oth, .oth] : List Sl) := hsl
                simp at this
                exact this
              have hcel : ∀ j, sl = .cel j → (∃ a, σ2[j]? = some a ∧ cenv.cells.lookup y = some a) → ∃ a, [c1, c2, c3, L][j - 1]? = some a ∧ cenv.cells.lookup y = some a := by
                rintro j e ⟨a, q1, q2⟩
                rcases hc j e with rfl | rfl | rfl
                · rw [e1] at q1; cases q1; exact ⟨c1, rfl, q2⟩
                · rw [e2] at q1; cases q1; exact ⟨c2, rfl, q2⟩
                · rw [e3] at q1; cases q1; exact ⟨c3, rfl, q2⟩
              cases kd <;> cases sl <;> first
                | exact x.elim
                | exact hcel _ rfl x
                | trivial
                | (rename_i v0
                   cases v0 with
                   | none =>
                     show VO ρ' _ none (m y)
                     have x' : VO ρ σ2 none (m y) := x
                     cases hmy : m y with
                     | none => trivial
                     | some v' => rw [hmy] at x'; exact x'.elim
                   | some v0 =>
                     show VO ρ' _ (some .opq) (m y)
                     have x' : VO ρ σ2 (some v0) (m y) := x
                     cases hmy : m y with
                     | none => rw [hmy] at x'; exact x'.elim
                     | some v' => exact .opq v')
            hr := ⟨rfl, fun n o a q q' => by
              match n, q, q' with
              | 0, q, q' =>
                cases q; cases q'
                obtain ⟨v', x1, x2⟩ := o1
                refine ⟨v', x1, ?_⟩
                cases v' with
                | none => exact x2.elim
                | some v' =>
                  obtain ⟨a, q, rfl⟩ := VR.refE (show VR ρ σ2 (.ref 5) v' from x2)
                  rw [eL] at q; cases q
                  exact VR.ref 3 L rfl
              | 1, q, q' =>
                cases q; cases q'
                obtain ⟨v', x1, x2⟩ := o2
                exact ⟨v', x1, by cases v' <;> first | trivial | exact x2.elim⟩
              | 2, q, q' =>
                cases q; cases q'
                obtain ⟨v', x1, x2⟩ := o3
                exact ⟨v', x1, by cases v' <;> first | trivial | exact x2.elim⟩
              | 3, q, q' =>
                cases q; cases q'
                exact ⟨nv, nc, oL, hρ' _⟩
              | n + 4, q, _ => simp [lawH] at q⟩
            nodup := nodup
            loc := fun hm => by
              simp at hm
              rcases hm with q | q | q | q
              · exact I2.loc (q ▸ List.mem_of_getElem? e1)
              · exact I2.loc (q ▸ List.mem_of_getElem? e2)
              · exact I2.loc (q ▸ List.mem_of_getElem? e3)
              · exact I2.loc (q ▸ List.mem_of_getElem? eL)
            lb := I2.lb
            mtb := fun n a _ q => by
              have := List.mem_of_getElem? q
              simp at this
              rcases this with rfl | rfl | rfl | rfl
              · exact d1
              · exact d2
              · exact d3
              · exact dL
            fzle := Nat.zero_le _ }
        -- the rest
        let rr : Nat := (Int.fmod (ρ' 0) 8).toNat
        have hrr : Int.fmod (ρ' 0) 8 = (rr : Int) := by
          have := Int.fmod_nonneg_of_pos (ρ' 0) (b := 8) (by decide)
          omega
        have hr8 : rr < 8 := by
          have := Int.fmod_lt_of_pos (ρ' 0) (b := 8) (by decide)
          omega
        have OK1 : OrcOk ⟨some (rr : Int), bitsZ (ρ' 1) rr 1⟩ ρ' := ⟨fun c e => by cases e; exact hrr, fun d b e => bitsZ_ok (ρ' 1) d b rr 1 e⟩
        have row := RW rr (bitsZ (ρ' 1) rr 1) hr8 (bitsZ_len _ _ _)
        exact law_tail (s := { s with heap := h2, toks := t2 }) (hb := s.heap) G FS FR OK1 row ct I3 hA1 (by show A.depth + 1 < 402; omega) (by show A.units + 3 < 110; omega) (Around.frames_deeper hA0) hcf ht2 fun h3 t3 hk => k h3 t3 hk)
  obtain ⟨a, o, fd, g1, g2, g3, g4⟩ := core
  exact ⟨a, o, fd, g1, g2, g3, wpAny_call g4⟩
end
end Mine
end
open PySem PySem.Calls PySem.W PySem.W.X PyProof.Rows PySem.W.ZRun
set_option Elab.async false
namespace Mine
def getO (K : Frag) (a : Addr) : Obj := match K.lookup a with
  | some o => o
  | none => { cls := .none, data := .plain }
def fdOf (o : Obj) : FuncData := match o.data with
  | .func fd => fd
  | _ => docDef wcN (defOf wcN).1 [] (defOf wcN).2.2 .none .none .none
def tOf : Value → Addr
  | .ref a => a
  | _ => 0
def seq0 (o : Obj) : Value × Nat := match o.data with
  | .seq its n => ((its.toList.head?).getD .none, n)
  | _ => (.none, 0)
theorem ok_wcK {K : Frag} {h : Heap} {mg : Str → Option Value} {a : Addr} (X : K.In h) (g1 : mg wcN = some (.ref a)) (b1 : K.lookup a = some (getO K a))
    (b2 : (getO K a).data = .func { docDef wcN (defOf wcN).1 (defOf wcN).2.1 (defOf wcN).2.2 (fdOf (getO K a)).pyModule (fdOf (getO K a)).code (fdOf (getO K a)).doc with defaults := .ref (tOf (fdOf (getO K a)).defaults), kwdefaults := (fdOf (getO K a)).kwdefaults })
    (b3 : codeIn K (fdOf (getO K a)).code wcN = true) (b4 : K.lookup (tOf (fdOf (getO K a)).defaults) = some (getO K (tOf (fdOf (getO K a)).defaults)))
    (b5 : (getO K (tOf (fdOf (getO K a)).defaults)).data = .seq (List.toArray [(seq0 (getO K (tOf (fdOf (getO K a)).defaults))).1, .bool false, .bool false]) (seq0 (getO K (tOf (fdOf (getO K a)).defaults))).2) : FnOK h mg wcN f_wc :=
  ok_wc g1 (X _ _ b1) b2 (codeRec_of X b3) (X _ _ b4) b5
theorem fin {M : Model} {A : Around} {h : Heap} {mg : Str → Option Value} {b Dd : Addr} {s : Shared} {E Q : Value → Shared → Prop} (hmg : mg "law" = some (.ref b))
    (F : ∀ E Q : Value → Shared → Prop, (∀ h' tk, (∀ b o, h.get? b = some o → h'.get? b = some o) → Q (.bool true) { s with heap := h', toks := tk }) → ∃ a o fd, mg "law" = some (.ref a) ∧ h.get? a = some o ∧ o.data = .func fd ∧ wpAny M A (call (.ref a) [.ref Dd]) Q E s)
    (k : ∀ h' tk, (∀ b o, h.get? b = some o → h'.get? b = some o) → Q (.bool true) { s with heap := h', toks := tk }) : wpAny M A (call (.ref b) [.ref Dd]) Q E s := by
  obtain ⟨a, o, fd, e1, _, _, e4⟩ := F E Q k
  cases hmg.symm.trans e1
  exact e4
end Mine
theorem Mine.rows_ok : Mine.RowsOK := Mine.rows_all
set_option maxRecDepth 100000 in
set_option maxHeartbeats 0 in
theorem PySem.Challenge.cw_aq6047_01_holds : PySem.Challenge.rw_aq6047_01.Holds := by
  w_on; o_law; z_head; (case hw => w_witness2); k_fill
  intro w s₀ s₁ mg mb G y fa o pm cd doc dV kV ho hd hcd hD hmg hg args vals as L hpre hlay hrd hwl hlo
  z_open y L KX ZH ZN ZT
  refine Ground.open G ?_
  intro T B D TE TW
  wrow_args hpre hlay hrd hwl hlo
  obtain ⟨hat, hsz⟩ := script_at L
  have htk := script_toks L ZT
  rw [ZN] at hat hsz
  subst hat
  x_fa T KX hmg
  all_lens
  rename_i hLL hi9 hcond
  have hWm : mg Mine.wcN = some (.ref 37) := mg_of KX T.g (by kernel_rfl)
  have hW : Mine.FnOK s₁.heap mg Mine.wcN Mine.f_wc := Mine.ok_wcK KX hWm (by kernel_rfl) (by kernel_rfl) (by kernel_rfl) (by kernel_rfl) (by kernel_rfl)
  obtain ⟨mc, hN1, hN2⟩ := T.nodigits
  have hNB : NoneBooked s₁.heap := ⟨mc, hN1, ns_none_of KX hN1 (by kernel_rfl)⟩
  refine Mine.fin hmg (fun E Q k => Mine.law_run (w := w) (prog := PySem.Challenge.rw_aq6047_01.row.prog) (A := callerA) T hW ⟨⟨_, List.mem_of_getElem? (i := 0) (by rfl)⟩, ⟨_, List.mem_of_getElem? (i := 1) (by rfl)⟩, ⟨_, List.mem_of_getElem? (i := 2) (by rfl)⟩,
    ⟨_, List.mem_of_getElem? (i := 4) (by rfl)⟩, ⟨_, List.mem_of_getElem? (i := 5) (by rfl)⟩, ⟨_, List.mem_of_getElem? (i := 3) (by rfl)⟩, ⟨_, List.mem_of_getElem? (i := 6) (by rfl)⟩, ⟨_, List.mem_of_getElem? (i := 7) (by rfl)⟩⟩ hNB (by decide +kernel) Mine.rows_ok (s := s₁) rfl (Nat.le_trans (by decide) htk) (script_obj L (by assumption)) hi9 (by omega) rfl (by decide) (by decide) rfl k) ?_
  intro h' tk hk
  exact ⟨.inl ⟨_, _, [], rfl, fun _ => rfl, ReadsW.bool true, (by kernel_rfl), fun _ => ⟨List.nodup_nil, fun _ hm => nomatch hm⟩⟩, OldK.of_keep hk, rfl, AllBare.of_eq hg⟩
