/-
  DERIVED. Plain functions of the seat's laws: no Go in sight.
-/
namespace Go.Proofs.Qxb6627863a.Plain

/-- A digit or a letter of ASCII. -/
def an (n : Int) : Bool := (decide (48 ≤ n) && decide (n ≤ 57)) || (decide (65 ≤ n) && decide (n ≤ 90)) || (decide (97 ≤ n) && decide (n ≤ 122))
/-- A character of a key mark. -/
def pcI (n : Int) : Bool := an n || n == 95 || n == 45
def pc (c : UInt8) : Bool := pcI (c.toNat : Int)
/-- It begins with the three bytes of the key mark. -/
def hk : List UInt8 → Bool
  | a :: b :: c :: _ => a == 102 && b == 107 && c == 95
  | _ => false
/-- What ValidPrefix answers. -/
def vp (l : List UInt8) : Bool := decide (2 ≤ l.length) && decide (l.length ≤ 16) && !(hk l) && l.all pc
/-- One byte of digitsLike. -/
def dg (c : UInt8) : UInt8 := 48 + c % 10
end Go.Proofs.Qxb6627863a.Plain
