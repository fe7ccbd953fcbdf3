/-
  THE PLAIN MODEL, part 3: pieces of layouts (the reference's): kinds, elements, plain text. Nothing of the program is imported.
-/
import Derived.Test.YtgcjhakhepgjlaaDoorFc
namespace Go.Proofs.YtgcjhakhepgjlaaDoor.Fs

structure Piece where
  kind : Int
  text : Bs
  n : Int
  comma : Bool

def within (n a b : Int) : Bool := decide (a ≤ n) && decide (n ≤ b)
def isSecond (k : Int) : Bool := k == 19 || k == 20
def isFraction (k : Int) : Bool := k == 33 || k == 34
def isZone (k : Int) : Bool := within k 22 31
def isISO (k : Int) : Bool := within k 27 31

def plainLetter (c : UInt8) : Bool := (decide (65 ≤ c.toNat) && decide (c.toNat ≤ 73)) || c.toNat == 84 || c.toNat == 87 || c.toNat == 88
def plainSign (c : UInt8) : Bool := c.toNat == 32 || (decide (33 ≤ c.toNat) && decide (c.toNat ≤ 43)) || c.toNat == 45 || c.toNat == 47 || (decide (58 ≤ c.toNat) && decide (c.toNat ≤ 64)) ||
  (decide (91 ≤ c.toNat) && decide (c.toNat ≤ 94)) || (decide (123 ≤ c.toNat) && decide (c.toNat ≤ 126))
/-- signs that a plain text may hold at a place that is not its first -/
def plainTail (l : Bs) : Bool := l.all fun c => plainSign c || plainLetter c
def plainAll (l : Bs) : Bool := match l with
  | [] => true
  | c :: t => plainSign c && plainTail t
def plain (l : Bs) : Bool := plainAll l && decide (l.length ≤ 1000)

def markB (comma : Bool) : Bs := if comma then [44] else [46]

def pieceOk (p : Piece) : Bool :=
  if p.kind = 0 then !p.text.isEmpty && plain p.text && p.n == 0 && !p.comma
  else if isFraction p.kind then p.text.isEmpty && within p.n 1 9
  else within p.kind 1 34 && p.text.isEmpty && p.n == 0 && !p.comma

def touch (a b : Int) : Bool :=
  if isFraction b then isSecond a
  else if b == 21 then within a 15 20 || isFraction a
  else if isISO b then a == 18 || a == 20 || isFraction a
  else false

/-- the text of an element -/
def element (p : Piece) : Bs :=
  if p.kind = 1 then [50, 48, 48, 54] else if p.kind = 2 then [48, 54] else if p.kind = 3 then [74, 97, 110, 117, 97, 114, 121] else if p.kind = 4 then [74, 97, 110]
  else if p.kind = 5 then [48, 49] else if p.kind = 6 then [49] else if p.kind = 7 then [77, 111, 110, 100, 97, 121] else if p.kind = 8 then [77, 111, 110]
  else if p.kind = 9 then [50] else if p.kind = 10 then [95, 50] else if p.kind = 11 then [48, 50] else if p.kind = 12 then [95, 95, 50] else if p.kind = 13 then [48, 48, 50]
  else if p.kind = 14 then [49, 53] else if p.kind = 15 then [51] else if p.kind = 16 then [48, 51] else if p.kind = 17 then [52] else if p.kind = 18 then [48, 52]
  else if p.kind = 19 then [53] else if p.kind = 20 then [48, 53] else if p.kind = 21 then [80, 77] else if p.kind = 22 then [45, 48, 55, 48, 48] else if p.kind = 23 then [45, 48, 55, 58, 48, 48]
  else if p.kind = 24 then [45, 48, 55] else if p.kind = 25 then [45, 48, 55, 48, 48, 48, 48] else if p.kind = 26 then [45, 48, 55, 58, 48, 48, 58, 48, 48]
  else if p.kind = 27 then [90, 48, 55, 48, 48] else if p.kind = 28 then [90, 48, 55, 58, 48, 48] else if p.kind = 29 then [90, 48, 55] else if p.kind = 30 then [90, 48, 55, 48, 48, 48, 48]
  else if p.kind = 31 then [90, 48, 55, 58, 48, 48, 58, 48, 48] else if p.kind = 32 then [77, 83, 84]
  else if p.kind = 33 then markB p.comma ++ List.replicate p.n.toNat 48 else if p.kind = 34 then markB p.comma ++ List.replicate p.n.toNat 57
  else p.text

def layout (ps : List Piece) : Bs := ps.flatMap element
def fractions (ps : List Piece) : Nat := (ps.filter fun p => isFraction p.kind).length
/-- may q stand right behind p? -/
def pairOk (p q : Piece) : Bool :=
  !(q.kind == 0 && isZone p.kind && q.text[0]? == some 58) && !(q.kind != 0 && (p.kind != 0 || isFraction q.kind) && !touch p.kind q.kind)
/-- is p ok, behind that piece? -/
def stepOk (prev : Option Piece) (p : Piece) : Bool := pieceOk p && (match prev with
  | none => !isFraction p.kind
  | some q => pairOk q p)
def allFrom (prev : Option Piece) : List Piece → Bool
  | [] => true
  | p :: r => stepOk prev p && allFrom (some p) r
def piecesOk (ps : List Piece) : Bool := allFrom none ps && decide (ps.length ≤ 100) && decide (fractions ps ≤ 1)
def fits (ps : List Piece) : Bool := decide (ps.length ≤ 2147483647) && ps.all fun p => decide (p.text.length ≤ 2147483647)

/-- NextChunk: the text ahead of the first element, the element, the text behind it -/
def chunk (l : Bs) : Bs × Bs × Bs :=
  let x := next l
  if x.2.1 = 0 then (x.1, [], []) else (x.1, (l.take (l.length - x.2.2.length)).drop x.1.length, x.2.2)

end Go.Proofs.YtgcjhakhepgjlaaDoor.Fs
