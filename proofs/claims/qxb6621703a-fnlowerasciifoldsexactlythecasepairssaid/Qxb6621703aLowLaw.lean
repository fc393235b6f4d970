import Derived.Test.Qxb6621703aLowWalks
namespace Go.Proofs.Qxb6621703a.Low
open Go.RowKit

theorem bne_f {x y : Int} (h : x = y) : (x != y) = false := by subst h; simp
theorem bne_t {x y : Int} (h : ¬ x = y) : (x != y) = true := by rw [bne_iff_ne]; exact h
theorem beq_f {x y : Int} (h : ¬ x = y) : (x == y) = false := by rw [beq_eq_false_iff_ne]; exact h
theorem beq_t {x y : Int} (h : x = y) : (x == y) = true := by rw [beq_iff_eq]; exact h

theorem part1 (a : Nat) (ha : a < 256) : ((low a : Int) != (a : Int)) = false ∨ (((low a : Int) != (a : Int)) = true ∧ ((low a : Int) != ((a ||| 32 : Nat) : Int)) = false) := by
  have h := chk1_all a ha
  unfold chk1 at h
  rw [Bool.or_eq_true, beq_iff_eq, beq_iff_eq] at h
  by_cases h1 : low a = a
  · exact .inl (bne_f (by rw [h1]))
  · have h2 : low a = a ||| 32 := h.resolve_left h1
    exact .inr ⟨bne_t (by omega), bne_f (by rw [h2])⟩

theorem part3 (a b : Nat) (ha : a < 256) (hb : b < 256) :
    (((a : Int) == (b : Int)) = true ∧ ((low a : Int) == (low b : Int)) = true) ∨ (((a : Int) == (b : Int)) = false ∧ (((a ^^^ b : Nat) : Int) == 32) = false ∧ ((low a : Int) == (low b : Int)) = false) ∨
    (((a : Int) == (b : Int)) = false ∧ (((a ^^^ b : Nat) : Int) == 32) = true ∧ ((low a : Int) == (low b : Int)) = isLow (a ||| 32)) := by
  have h := chk2_all a ha b hb
  have e0 : ((low a : Int) == (low b : Int)) = (low a == low b) := by
    rw [Bool.eq_iff_iff, beq_iff_eq, beq_iff_eq]; omega
  rw [e0]
  by_cases h1 : a = b
  · subst h1
    exact .inl ⟨beq_t rfl, by simp⟩
  · have e1 : (a == b) = false := by rw [beq_eq_false_iff_ne]; exact h1
    rw [e1, Bool.false_or] at h
    by_cases h2 : a ^^^ b = 32
    · have e2 : (a ^^^ b == 32) = true := by rw [beq_iff_eq]; exact h2
      rw [e2, Bool.true_and] at h
      exact .inr (.inr ⟨beq_f (by omega), beq_t (by omega), h⟩)
    · have e2 : (a ^^^ b == 32) = false := by rw [beq_eq_false_iff_ne]; exact h2
      rw [e2, Bool.false_and] at h
      exact .inr (.inl ⟨beq_f (by omega), beq_f (by omega), h⟩)

theorem law_any (a b : Nat) (w : World) (ha : a < 256) (hb : b < 256) :
    Calls Try.prog 5 #[.int .u8 (a : Int), .int .u8 (b : Int)] w fun e w' => e = .returned (.bool true) ∧ Below w.heap.size w w' := by
  refine law_core a b _ _ ((a ||| 32 : Nat) : Int) ((b ||| 32 : Nat) : Int) ((a ^^^ b : Nat) : Int) (isLow (a ||| 32)) w ha hb rfl rfl (u8_or_nat a 32 ha (by omega)) (u8_or_nat b 32 hb (by omega)) (u8_xor_nat a b ha hb) ?_ (part1 a ha) (part1 b hb) (part3 a b ha hb)
  show (decide ((97 : Int) ≤ ((a ||| 32 : Nat) : Int)) && decide (((a ||| 32 : Nat) : Int) ≤ 122)) = isLow (a ||| 32)
  generalize a ||| 32 = x
  unfold isLow
  congr 1 <;> (rw [decide_eq_decide]; omega)
end Go.Proofs.Qxb6621703a.Low
