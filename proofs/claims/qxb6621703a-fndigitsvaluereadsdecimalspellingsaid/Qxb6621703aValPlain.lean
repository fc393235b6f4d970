import Derived.RowKit
namespace Go.Proofs.Qxb6621703a.Val
open Go.RowKit

/-! ### wrapping -/
theorem wr_ex (a : Int) : ∃ k : Int, wrap64 a = a + k * 18446744073709551616 := by
  refine ⟨-((a + 9223372036854775808) / 18446744073709551616), ?_⟩
  simp only [wrap64]
  omega
theorem wr_shift (a k : Int) : wrap64 (a + k * 18446744073709551616) = wrap64 a := by
  simp only [wrap64]
  omega
theorem wr_in (a : Int) (h0 : 0 ≤ a) (h1 : a ≤ 9223372036854775807) : wrap64 a = a := by
  simp only [wrap64]
  omega
theorem wr_mul (a b : Int) : wrap64 (wrap64 a * b) = wrap64 (a * b) := by
  obtain ⟨k, hk⟩ := wr_ex a
  rw [hk, Int.add_mul, Int.mul_assoc, Int.mul_comm 18446744073709551616 b, ← Int.mul_assoc, wr_shift]
theorem wr_mul' (a b : Int) : wrap64 (a * wrap64 b) = wrap64 (a * b) := by rw [Int.mul_comm, wr_mul, Int.mul_comm]
theorem wr_add (a b : Int) : wrap64 (wrap64 a + b) = wrap64 (a + b) := by
  obtain ⟨k, hk⟩ := wr_ex a
  rw [hk, show a + k * 18446744073709551616 + b = (a + b) + k * 18446744073709551616 from by omega, wr_shift]
theorem wr_add' (a b : Int) : wrap64 (a + wrap64 b) = wrap64 (a + b) := by rw [Int.add_comm, wr_add, Int.add_comm]
theorem wr_wr (a : Int) : wrap64 (wrap64 a) = wrap64 a := by have := wr_add a 0; simpa using this

/-! ### what digits spell -/
def isD (c : UInt8) : Bool := decide (48 ≤ (c.toNat : Int)) && decide ((c.toNat : Int) ≤ 57)
def dv (c : UInt8) : Int := (c.toNat : Int) - 48
def val (l : List UInt8) : Int := l.foldl (fun n c => n * 10 + dv c) 0
/-- Ten to the m-th. -/
def p10 (m : Nat) : Int := 10 ^ m
theorem p10_zero : p10 0 = 1 := rfl
theorem p10_succ (m : Nat) : p10 (m + 1) = p10 m * 10 := Int.pow_succ ..
theorem p10_pos : ∀ m, 1 ≤ p10 m
  | 0 => by decide
  | m + 1 => by have := p10_pos m; rw [p10_succ]; omega
theorem p10_add (a : Nat) : ∀ b, p10 (a + b) = p10 a * p10 b
  | 0 => by rw [p10_zero]; simp
  | b + 1 => by rw [← Nat.add_assoc, p10_succ, p10_add a b, p10_succ, Int.mul_assoc]
theorem p10_mono (a b : Nat) (h : a ≤ b) : p10 a ≤ p10 b := by
  obtain ⟨c, rfl⟩ := Nat.exists_eq_add_of_le h
  rw [p10_add]
  have h1 := p10_pos a
  have h2 := p10_pos c
  have := Int.mul_le_mul_of_nonneg_left h2 (show 0 ≤ p10 a by omega)
  omega
theorem p10_18 : p10 18 = 1000000000000000000 := by decide
theorem p10_19 : p10 19 = 10000000000000000000 := by decide

theorem fold_val (l : List UInt8) : ∀ a : Int, l.foldl (fun n c => n * 10 + dv c) a = a * p10 l.length + val l := by
  induction l with
  | nil => intro a; simp [val, p10_zero]
  | cons c l ih =>
    intro a
    rw [List.foldl_cons, ih, List.length_cons, p10_succ]
    unfold val
    rw [List.foldl_cons, ih (0 * 10 + dv c)]
    rw [Int.add_mul, Int.add_mul, Int.mul_assoc a 10, Int.mul_comm 10 (p10 l.length)]
    simp only [val]
    omega
theorem val_append (l r : List UInt8) : val (l ++ r) = val l * p10 r.length + val r := by
  unfold val
  rw [List.foldl_append, fold_val]
  rfl
theorem val_nil : val [] = 0 := rfl
theorem val_one (c : UInt8) : val [c] = dv c := by simp [val]
theorem val_snoc (l : List UInt8) (c : UInt8) : val (l ++ [c]) = val l * 10 + dv c := by
  rw [val_append, val_one]; rfl
theorem dv_bd {c : UInt8} (h : isD c = true) : 0 ≤ dv c ∧ dv c ≤ 9 := by
  unfold isD at h
  rw [Bool.and_eq_true, decide_eq_true_iff, decide_eq_true_iff] at h
  unfold dv; omega
theorem val_bd : ∀ l : List UInt8, l.all isD = true → 0 ≤ val l ∧ val l < p10 l.length
  | [], _ => by decide
  | c :: l, h => by
    rw [List.all_cons, Bool.and_eq_true] at h
    have h1 := val_bd l h.2
    have h2 := dv_bd h.1
    have e : val (c :: l) = dv c * p10 l.length + val l := by
      have := val_append [c] l
      rw [val_one] at this
      exact this
    rw [e, List.length_cons, p10_succ]
    have h3 := p10_pos l.length
    have h4 : 0 ≤ dv c * p10 l.length := Int.mul_nonneg h2.1 (by omega)
    have h5 : dv c * p10 l.length ≤ 9 * p10 l.length := Int.mul_le_mul_of_nonneg_right h2.2 (by omega)
    omega
theorem val_zeros : ∀ z : Nat, val (List.replicate z 48) = 0
  | 0 => rfl
  | z + 1 => by rw [List.replicate_succ', val_snoc, val_zeros z]; decide
theorem all_zeros (z : Nat) : (List.replicate z (48 : UInt8)).all isD = true := by
  rw [List.all_eq_true]; intro c hc; rw [(List.mem_replicate.1 hc).2]; decide

/-! ### the plain laws -/
/-- Any cut of digits that spell n: the head's value times a power, plus the tail's, is n, wraps and all. -/
theorem cut_law (l r : List UInt8) (n : Int) (h : val (l ++ r) = n) (hn0 : 0 ≤ n) (hn : n ≤ 9223372036854775807) :
    wrap64 (wrap64 (wrap64 (val l) * wrap64 (p10 r.length)) + wrap64 (val r)) = n := by
  rw [wr_mul, wr_mul', wr_add', wr_add, ← val_append, h, wr_in n hn0 hn]
/-- The head and the tail of digits by division. -/
theorem cut_div (l r : List UInt8) (hr : r.all isD = true) : val (l ++ r) / p10 r.length = val l ∧ val (l ++ r) % p10 r.length = val r := by
  have h1 := val_bd r hr
  have h2 := p10_pos r.length
  rw [val_append]
  constructor
  · rw [Int.mul_comm, Int.mul_add_ediv_left _ _ (by omega), Int.ediv_eq_zero_of_lt h1.1 h1.2]; omega
  · rw [Int.mul_comm, Int.mul_add_emod_self_left, Int.emod_eq_of_lt h1.1 h1.2]
/-- A digit put in. -/
theorem put_law (l r : List UInt8) (c : UInt8) : wrap64 (val (l ++ [c] ++ r)) = wrap64 (wrap64 (wrap64 (val l * wrap64 (p10 (r.length + 1))) + wrap64 (dv c * wrap64 (p10 r.length))) + val r) := by
  rw [wr_mul', wr_mul', wr_add' (wrap64 (val l * p10 (r.length + 1))) (dv c * p10 r.length), wr_add (val l * p10 (r.length + 1)) (dv c * p10 r.length), wr_add, val_append, val_snoc, p10_succ, Int.add_mul, Int.mul_assoc, Int.mul_comm 10 (p10 r.length)]
end Go.Proofs.Qxb6621703a.Val
