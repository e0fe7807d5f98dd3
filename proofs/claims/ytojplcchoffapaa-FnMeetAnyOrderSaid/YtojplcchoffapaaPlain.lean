/- Plain words for the rectangles: a rectangle as four integers, and what each method of the library computes. No program in sight. Conditions: none. -/
import Derived.WalkKit
namespace Go.Proofs.Ytojplcchoffapaa
open Go.RowKit

/-- a rectangle -/
structure R where
  x0 : Int
  y0 : Int
  x1 : Int
  y1 : Int

/-- has it no point? -/
def emptyB (a b c d : Int) : Bool := decide (c ≤ a) || decide (d ≤ b)
def R.empty (r : R) : Bool := emptyB r.x0 r.y0 r.x1 r.y1

/-- is the point x, y in it? -/
def inB (x y a b c d : Int) : Bool := decide (a ≤ x) && decide (x < c) && decide (b ≤ y) && decide (y < d)
def R.has (r : R) (x y : Int) : Bool := inB x y r.x0 r.y0 r.x1 r.y1

/-- do two overlap? -/
def overB (a b c d e f g h : Int) : Bool := !emptyB a b c d && !emptyB e f g h && decide (a < g) && decide (e < c) && decide (b < h) && decide (f < d)
def R.over (r s : R) : Bool := overB r.x0 r.y0 r.x1 r.y1 s.x0 s.y0 s.x1 s.y1

/-- does the first lie in the second? -/
def subB (a b c d e f g h : Int) : Bool := emptyB a b c d || (decide (e ≤ a) && decide (c ≤ g) && decide (f ≤ b) && decide (d ≤ h))
def R.sub (r s : R) : Bool := subB r.x0 r.y0 r.x1 r.y1 s.x0 s.y0 s.x1 s.y1

/-- have they the same points? -/
def sameB (a b c d e f g h : Int) : Bool := (decide (a = e) && decide (b = f) && decide (c = g) && decide (d = h)) || (emptyB a b c d && emptyB e f g h)
def R.same (r s : R) : Bool := sameB r.x0 r.y0 r.x1 r.y1 s.x0 s.y0 s.x1 s.y1

/-- the four numbers before the test for emptiness -/
def core (r s : R) : R := ⟨if r.x0 < s.x0 then s.x0 else r.x0, if r.y0 < s.y0 then s.y0 else r.y0, if s.x1 < r.x1 then s.x1 else r.x1, if s.y1 < r.y1 then s.y1 else r.y1⟩
def inter (r s : R) : R := if (core r s).empty then ⟨0, 0, 0, 0⟩ else core r s

def hull (r s : R) : R := ⟨if s.x0 < r.x0 then s.x0 else r.x0, if s.y0 < r.y0 then s.y0 else r.y0, if r.x1 < s.x1 then s.x1 else r.x1, if r.y1 < s.y1 then s.y1 else r.y1⟩
def union (r s : R) : R := if r.empty then s else if s.empty then r else hull r s

def addR (r : R) (x y : Int) : R := ⟨wrap64 (r.x0 + x), wrap64 (r.y0 + y), wrap64 (r.x1 + x), wrap64 (r.y1 + y)⟩
def subR (r : R) (x y : Int) : R := ⟨wrap64 (r.x0 - x), wrap64 (r.y0 - y), wrap64 (r.x1 - x), wrap64 (r.y1 - y)⟩

/-- one axis of Inset -/
def insLo (a c n : Int) : Int := if wrap64 (c - a) < wrap64 (2 * n) then wrap64 ((wrap64 (a + c)).tdiv 2) else wrap64 (a + n)
def insHi (a c n : Int) : Int := if wrap64 (c - a) < wrap64 (2 * n) then wrap64 ((wrap64 (a + c)).tdiv 2) else wrap64 (c - n)
def insetR (r : R) (n : Int) : R := ⟨insLo r.x0 r.x1 n, insLo r.y0 r.y1 n, insHi r.x0 r.x1 n, insHi r.y0 r.y1 n⟩

def canonR (r : R) : R := ⟨if r.x1 < r.x0 then r.x1 else r.x0, if r.y1 < r.y0 then r.y1 else r.y0, if r.x1 < r.x0 then r.x0 else r.x1, if r.y1 < r.y0 then r.y0 else r.y1⟩

end Go.Proofs.Ytojplcchoffapaa
