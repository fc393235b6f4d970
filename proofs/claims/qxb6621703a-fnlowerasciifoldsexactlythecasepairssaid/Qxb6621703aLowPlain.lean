namespace Go.Proofs.Qxb6621703a.Low
/-- An ASCII capital in lower case; else the byte itself. -/
def low (a : Nat) : Nat := if 65 ≤ a ∧ a ≤ 90 then a + 32 else a
/-- Is it a letter from a to z? -/
def isLow (a : Nat) : Bool := decide (97 ≤ a) && decide (a ≤ 122)
def chk1 (a : Nat) : Bool := low a == a || low a == a ||| 32
/-- The two sides of the law are equal, in the words that the kernel runs fastest. -/
def lowB (a : Nat) : Nat := bif Nat.ble 65 a && Nat.ble a 90 then a + 32 else a
def same : Bool → Bool → Bool
  | true, true => true
  | false, false => true
  | _, _ => false
def chk2 (a b : Nat) : Bool := same (Nat.beq (lowB a) (lowB b)) (Nat.beq a b || (Nat.beq (Nat.xor a b) 32 && (Nat.ble 97 (Nat.lor a 32) && Nat.ble (Nat.lor a 32) 122)))
set_option maxRecDepth 100000 in
theorem chk1_all : ∀ a, a < 256 → chk1 a = true := by decide +kernel
set_option maxRecDepth 100000 in
theorem chk2_list : ((List.range 256).all fun a => (List.range 256).all fun b => chk2 a b) = true := by decide +kernel
theorem ble_d (x y : Nat) : Nat.ble x y = decide (x ≤ y) := by rw [Bool.eq_iff_iff, Nat.ble_eq, decide_eq_true_iff]
theorem beq_d (x y : Nat) : Nat.beq x y = (x == y) := by rw [Bool.eq_iff_iff, Nat.beq_eq, beq_iff_eq]
theorem lowB_low (a : Nat) : lowB a = low a := by
  unfold lowB low
  rw [ble_d, ble_d]
  by_cases h1 : 65 ≤ a
  · by_cases h2 : a ≤ 90
    · rw [if_pos ⟨h1, h2⟩]; simp [h1, h2]
    · rw [if_neg (by omega)]; simp [h2]
  · rw [if_neg (by omega)]; simp [h1]
theorem same_eq {x y : Bool} (h : same x y = true) : x = y := by
  cases x <;> cases y <;> first | rfl | exact absurd h (by decide)
theorem chk2_all (a : Nat) (ha : a < 256) (b : Nat) (hb : b < 256) : (low a == low b) = (a == b || (a ^^^ b == 32 && isLow (a ||| 32))) := by
  have h := List.all_eq_true.1 (List.all_eq_true.1 chk2_list a (List.mem_range.2 ha)) b (List.mem_range.2 hb)
  have e := same_eq h
  rw [lowB_low, lowB_low, beq_d, beq_d, beq_d, ble_d, ble_d] at e
  exact e
end Go.Proofs.Qxb6621703a.Low
