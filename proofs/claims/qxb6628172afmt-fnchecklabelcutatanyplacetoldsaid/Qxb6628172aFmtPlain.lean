/-
  DERIVED. The plain function of CheckLabel and its law: no Go in sight.
-/
namespace Go.Proofs.Qxb6628172aFmt.Plain

def chI (n : Int) : Bool := (decide (97 ≤ n) && decide (n ≤ 122)) || (decide (48 ≤ n) && decide (n ≤ 57)) || n == 45
def ch (c : UInt8) : Bool := chI (c.toNat : Int)
/-- CheckLabel gives nil. -/
def cl (l : List UInt8) : Bool := decide (1 ≤ l.length) && decide (l.length ≤ 63) && !(l.head? == some 45) && l.all ch

theorem cl_empty (l : List UInt8) (h : l.length = 0) : cl l = false := by simp [cl, h]
theorem cl_long (l : List UInt8) (h : 63 < l.length) : cl l = false := by
  have : decide (l.length ≤ 63) = false := by simp; omega
  simp [cl, this]
theorem cl_dash (l : List UInt8) (h : l.head? = some 45) : cl l = false := by simp [cl, h]
theorem cl_mid (l : List UInt8) (h1 : 1 ≤ l.length) (h2 : l.length ≤ 63) (h3 : (l.head? == some 45) = false) : cl l = l.all ch := by
  simp [cl, h1, h2, h3]

theorem ch_zero : ch 48 = true := by decide

/-- The law of the cut: whole = short enough and head and tail. -/
theorem cut (l : List UInt8) (i : Nat) (h1 : 1 ≤ i) (h2 : i ≤ l.length) (h63 : l.length ≤ 63) : cl l = (cl (l.take i) && cl (48 :: l.drop i)) := by
  have hh : (l.take i).head? = l.head? := by
    match i, l, h1 with
    | i + 1, [], _ => rfl
    | i + 1, a :: r, _ => rfl
  have ha : l.all ch = ((l.take i).all ch && (l.drop i).all ch) := by
    rw [← List.all_append, List.take_append_drop]
  have ht : cl (48 :: l.drop i) = (l.drop i).all ch := by
    rw [cl_mid _ (by simp) (by simp; omega) (by rfl), List.all_cons, ch_zero]
    rfl
  cases hd : (l.head? == some 45)
  · rw [cl_mid l (by omega) h63 hd, cl_mid (l.take i) (by simp; omega) (by simp; omega) (by rw [hh]; exact hd), ht, ha]
  · have hd' : l.head? = some 45 := by simpa using hd
    rw [cl_dash l hd', cl_dash (l.take i) (by rw [hh]; exact hd')]
    rfl
end Go.Proofs.Qxb6628172aFmt.Plain
