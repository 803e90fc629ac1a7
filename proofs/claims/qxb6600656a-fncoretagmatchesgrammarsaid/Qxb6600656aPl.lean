import Derived.Lib.IndexAny
import Derived.Lib.Bytealg
namespace Go.Proofs.Qxb6600656a

/-- The value of a digit, 99 where it is none. -/
def dval (c : UInt8) : Nat :=
  if 48 ≤ c.toNat ∧ c.toNat ≤ 57 then c.toNat - 48
  else if 97 ≤ c.toNat ∧ c.toNat ≤ 102 then c.toNat - 97 + 10
  else if 65 ≤ c.toNat ∧ c.toNat ≤ 70 then c.toNat - 65 + 10
  else 99

def digB (b : Nat) (c : UInt8) : Bool := decide (dval c < b)
def digs (b : Nat) (l : List UInt8) : Bool := !l.isEmpty && l.all (digB b)

def isNull (l : List UInt8) : Bool := l == [] || l == [126] || l == [110, 117, 108, 108] || l == [78, 117, 108, 108] || l == [78, 85, 76, 76]
def isBool (l : List UInt8) : Bool := l == [116, 114, 117, 101] || l == [84, 114, 117, 101] || l == [84, 82, 85, 69] || l == [102, 97, 108, 115, 101] || l == [70, 97, 108, 115, 101] || l == [70, 65, 76, 83, 69]
def isNan (l : List UInt8) : Bool := l == [46, 110, 97, 110] || l == [46, 78, 97, 78] || l == [46, 78, 65, 78]
def isInf (l : List UInt8) : Bool := l == [46, 105, 110, 102] || l == [46, 73, 110, 102] || l == [46, 73, 78, 70]

/-- Without its first byte where that is a sign. -/
def uns : List UInt8 → List UInt8
  | [] => []
  | c :: r => if c = 43 ∨ c = 45 then r else c :: r

def rad (l : List UInt8) : Bool := decide (2 < l.length) && ((l.take 2 == [48, 111] && digs 8 (l.drop 2)) || (l.take 2 == [48, 120] && digs 16 (l.drop 2)))

/-- The mantissa's test: has the number an exponent? -/
def fin (m : List UInt8) (hasE : Bool) : Bool :=
  if Lib.indexByte m 46 < 0 then hasE && digs 10 m
  else if m.take (Lib.indexByte m 46).toNat == [] then digs 10 (m.drop ((Lib.indexByte m 46).toNat + 1))
  else digs 10 (m.take (Lib.indexByte m 46).toNat) && (m.drop ((Lib.indexByte m 46).toNat + 1) == [] || digs 10 (m.drop ((Lib.indexByte m 46).toNat + 1)))

def isFl (l : List UInt8) : Bool :=
  if Lib.indexAny l [101, 69] < 0 then fin l false
  else if digs 10 (uns (l.drop ((Lib.indexAny l [101, 69]).toNat + 1))) then fin (l.take (Lib.indexAny l [101, 69]).toNat) true
  else false

/-- The number behind the sign: 2: an integer, 3: a float, 4: neither. -/
def num (u : List UInt8) : Nat := if isInf u then 3 else if digs 10 u then 2 else if isFl u then 3 else 4

def tag (l : List UInt8) : Nat :=
  if isNull l then 0 else if isBool l then 1 else if isNan l then 3 else if isInf (uns l) then 3 else if rad l then 2 else if digs 10 (uns l) then 2 else if isFl (uns l) then 3 else 4

end Go.Proofs.Qxb6600656a
