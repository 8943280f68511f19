/-
  The language of positions as plain functions on lists of runes: what is read, what is written. No statement of the seat is proved here, and no program is in sight.
-/
import Derived.Test.YtfhnjgoipajiaaaDoorPlR
import Derived.Lib.AtoiAll
namespace Go.Proofs.YtfhnjgoipajiaaaDoor.pl

/-- The classes of runes that the reader asks. -/
structure Cls where
  letter : Nat → Bool
  digit : Nat → Bool
  space : Nat → Bool

def idc (C : Cls) (c : Nat) : Bool := C.letter c || c == 95 || C.digit c

def skipS (C : Cls) (l : List Nat) : List Nat := l.dropWhile C.space

def eat (C : Cls) (t l : List Nat) : Option (List Nat) := if t.isPrefixOf l then some (skipS C (l.drop t.length)) else none

def hd (p : Nat → Bool) : List Nat → Bool
  | [] => false
  | c :: _ => p c

def pvar (C : Cls) (l : List Nat) : Option (List Nat × List Nat) := if hd C.letter l then some (l.takeWhile (idc C), skipS C (l.dropWhile (idc C))) else none

/-- The number that some digits spell, if it is an int. -/
def atoi (l : List Nat) : Option Nat := match Lib.atoiAll (enc l) with
  | .ok v => some v.toNat
  | _ => none

inductive IE where
  | int (n : Nat)
  | len (v : List Nat)
  | ite (c : List Nat) (t e : IE)

def kLen : List Nat := [108, 101, 110]
def kPos : List Nat := [112, 111, 115]
def kEnd : List Nat := [101, 110, 100]

/-- A number. -/
def iat (C : Cls) : Nat → List Nat → Option (IE × List Nat)
  | 0, _ => none
  | f + 1, l =>
    match eat C [40] l with
    | some l1 =>
      (pvar C l1).bind fun c => (eat C [63] c.2).bind fun l3 => (iat C f l3).bind fun t => (eat C [58] t.2).bind fun l5 => (iat C f l5).bind fun e => (eat C [41] e.2).bind fun l7 => some (.ite c.1 t.1 e.1, l7)
    | none =>
      if hd C.digit l then (atoi (l.takeWhile C.digit)).bind fun n => some (.int n, skipS C (l.dropWhile C.digit))
      else (pvar C l).bind fun v => if v.1 = kLen then (eat C [40] v.2).bind fun l2 => (pvar C l2).bind fun s => (eat C [41] s.2).bind fun l4 => some (.len s.1, l4) else none

inductive NA where
  | var (v : List Nat)
  | last (v : List Nat)
  | idx (v : List Nat) (i : IE)

/-- A node. -/
def nat' (C : Cls) (f : Nat) (l : List Nat) : Option (NA × List Nat) :=
  (pvar C l).bind fun x =>
    match eat C [91] x.2 with
    | none => some (.var x.1, x.2)
    | some l1 =>
      match eat C [36] l1 with
      | some l2 => (eat C [93] l2).bind fun l3 => some (.last x.1, l3)
      | none => (iat C f l1).bind fun y => (eat C [93] y.2).bind fun l3 => some (.idx x.1 y.1, l3)

def nats (C : Cls) (f : Nat) : Nat → List Nat → Option (List NA × List Nat)
  | 0, _ => none
  | k + 1, l =>
    match eat C [63, 63] l with
    | none => some ([], l)
    | some l1 => (nat' C f l1).bind fun x => (nats C f k x.2).bind fun y => some (x.1 :: y.1, y.2)

inductive NE where
  | atom (a : NA)
  | choice (a : NA) (as : List NA)

def nex (C : Cls) (f : Nat) (l : List Nat) : Option (NE × List Nat) :=
  match eat C [40] l with
  | some l1 => (nat' C f l1).bind fun x => (nats C f f x.2).bind fun y => (eat C [41] y.2).bind fun l2 => some (.choice x.1 y.1, l2)
  | none => (nat' C f l).bind fun x => some (.atom x.1, x.2)

inductive PA where
  | var (v : List Nat)
  | pos (n : NE)
  | end_ (n : NE)

def paOf : NE → Option PA
  | .atom (.var v) => some (.var v)
  | _ => none

def pat (C : Cls) (f : Nat) (l : List Nat) : Option (PA × List Nat) :=
  (nex C f l).bind fun x =>
    match eat C [46] x.2 with
    | some l1 => (pvar C l1).bind fun y => if y.1 = kPos then some (.pos x.1, y.2) else if y.1 = kEnd then some (.end_ x.1, y.2) else none
    | none => (paOf x.1).bind fun a => some (a, x.2)

def adds (C : Cls) (f : Nat) : Nat → List Nat → Option (List IE × List Nat)
  | 0, _ => none
  | k + 1, l =>
    match eat C [43] l with
    | none => some ([], l)
    | some l1 => (iat C f l1).bind fun x => (adds C f k x.2).bind fun y => some (x.1 :: y.1, y.2)

/-- A position and what is added to it. -/
structure PS where
  a : PA
  is : List IE

def psx (C : Cls) (f : Nat) (l : List Nat) : Option (PS × List Nat) :=
  (pat C f l).bind fun x => (adds C f f x.2).bind fun y => some (⟨x.1, y.1⟩, y.2)

def alts (C : Cls) (f : Nat) : Nat → List Nat → Option (List PS × List Nat)
  | 0, _ => none
  | k + 1, l =>
    match eat C [124, 124] l with
    | none => some ([], l)
    | some l1 => (psx C f l1).bind fun x => (alts C f k x.2).bind fun y => some (x.1 :: y.1, y.2)

/-- A position: one, or the first that there is of some. -/
structure PC where
  s : PS
  ss : List PS

def pcx (C : Cls) (f : Nat) (l : List Nat) : Option (PC × List Nat) :=
  (psx C f l).bind fun x => (alts C f f x.2).bind fun y => some (⟨x.1, y.1⟩, y.2)

def parse (C : Cls) (s : List Nat) : Option PC := (pcx C (s.length + 1) (skipS C s)).bind fun x => if x.2.isEmpty then some x.1 else none

/-- What is written; D: how a number is written. -/
def pIE (D : Nat → List Nat) : IE → List Nat
  | .int n => D n
  | .len v => kLen ++ 40 :: (v ++ [41])
  | .ite c t e => 40 :: (c ++ [32, 63, 32] ++ pIE D t ++ [32, 58, 32] ++ pIE D e ++ [41])

def pNA (D : Nat → List Nat) : NA → List Nat
  | .var v => v
  | .last v => v ++ [91, 36, 93]
  | .idx v i => v ++ 91 :: (pIE D i ++ [93])

def pNAs (D : Nat → List Nat) : List NA → List Nat
  | [] => []
  | a :: r => [32, 63, 63, 32] ++ pNA D a ++ pNAs D r

def pNE (D : Nat → List Nat) : NE → List Nat
  | .atom a => pNA D a
  | .choice a as => 40 :: (pNA D a ++ pNAs D as ++ [41])

def pPA (D : Nat → List Nat) : PA → List Nat
  | .var v => v
  | .pos n => pNE D n ++ 46 :: kPos
  | .end_ n => pNE D n ++ 46 :: kEnd

def pIs (D : Nat → List Nat) : List IE → List Nat
  | [] => []
  | i :: r => [32, 43, 32] ++ pIE D i ++ pIs D r

def pPS (D : Nat → List Nat) (s : PS) : List Nat := pPA D s.a ++ pIs D s.is

def pPSs (D : Nat → List Nat) : List PS → List Nat
  | [] => []
  | s :: r => [32, 124, 124, 32] ++ pPS D s ++ pPSs D r

def print (D : Nat → List Nat) (e : PC) : List Nat := pPS D e.s ++ pPSs D e.ss

/-- What is asked of the classes. -/
structure Cls.Ok (C : Cls) : Prop where
  low : ∀ c, c < 128 → C.letter c = ((65 ≤ c && c ≤ 90) || (97 ≤ c && c ≤ 122)) ∧ C.digit c = (48 ≤ c && c ≤ 57) ∧ C.space c = ((9 ≤ c && c ≤ 13) || c == 32)

/-- What is asked of the writing of numbers. -/
def DOk (D : Nat → List Nat) : Prop := ∀ n, n ≤ 9223372036854775807 → D n ≠ [] ∧ (∀ c ∈ D n, 48 ≤ c ∧ c ≤ 57) ∧ atoi (D n) = some n

structure WN (C : Cls) (G : Nat → Prop) (v : List Nat) : Prop where
  head : ∃ c r, v = c :: r ∧ C.letter c = true ∧ C.space c = false
  all : ∀ c ∈ v, idc C c = true
  good : ∀ c ∈ v, G c

def WI (C : Cls) (G : Nat → Prop) : IE → Prop
  | .int n => n ≤ 9223372036854775807
  | .len v => WN C G v
  | .ite c t e => WN C G c ∧ WI C G t ∧ WI C G e

def WA (C : Cls) (G : Nat → Prop) : NA → Prop
  | .var v => WN C G v
  | .last v => WN C G v
  | .idx v i => WN C G v ∧ WI C G i

def WE (C : Cls) (G : Nat → Prop) : NE → Prop
  | .atom a => WA C G a
  | .choice a as => WA C G a ∧ ∀ b ∈ as, WA C G b

def WP (C : Cls) (G : Nat → Prop) : PA → Prop
  | .var v => WN C G v
  | .pos n => WE C G n
  | .end_ n => WE C G n

structure WS (C : Cls) (G : Nat → Prop) (s : PS) : Prop where
  a : WP C G s.a
  is : ∀ i ∈ s.is, WI C G i

structure WC (C : Cls) (G : Nat → Prop) (e : PC) : Prop where
  s : WS C G e.s
  ss : ∀ x ∈ e.ss, WS C G x

end Go.Proofs.YtfhnjgoipajiaaaDoor.pl
