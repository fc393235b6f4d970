namespace Go.Proofs.Qxb6619670a.Dig

/-- Is the byte a decimal digit? -/
def isD (c : UInt8) : Bool := decide (48 ≤ (c.toNat : Int)) && decide ((c.toNat : Int) ≤ 57)
/-- What 'isDigits' answers. -/
def digs (l : List UInt8) : Bool := !l.isEmpty && l.all isD

theorem digs_one (c : UInt8) : digs [c] = isD c := by simp [digs]

theorem digs_mid (x y : List UInt8) (c : UInt8) : digs (x ++ [c] ++ y) = ((x.isEmpty || digs x) && digs [c] && (y.isEmpty || digs y)) := by
  cases x <;> cases y <;> simp [digs, Bool.and_assoc, Bool.and_comm, Bool.and_left_comm]

end Go.Proofs.Qxb6619670a.Dig
