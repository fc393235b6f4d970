import Derived.Test.Qxb6619872aSizLaw
namespace Go.Proofs.Qxb6619872a.Siz
open Go.RowKit

set_option maxHeartbeats 1000000 in
/-- At least one part. -/
theorem fix_in (p a f s0 : Int) (k : Nat) (F S : Nat → Int) (w : World) (hp : 0 ≤ p) (hp2 : p ≤ 1073741824) (ha : 1 ≤ a) (ha2 : a ≤ 1073741824)
    (hqa : p / a < 65536) (hka : Hid (parts p a = (k : Int))) (hk1 : 1 ≤ k) (hk2 : k ≤ 65536) (hf : Hid (flo a = f)) (hf0 : 0 ≤ f) (hm0 : 0 ≤ f * (k : Int)) (hm1 : f * (k : Int) ≤ 524288) (HF : Hid (∀ t, F t = szAt p k (flo a) t))
    (hB : Bal k (if p < f * (k : Int) then f * (k : Int) else p) f a F S) (hs0 : Hid (F 0 = s0)) (hs1 : 1 ≤ s0) (hs2 : s0 ≤ 1073741824) (hks : Hid (parts p s0 = (k : Int))) (HF2 : Hid (∀ t, F t = szAt p k (flo s0) t)) :
    Calls Try.prog 3 #[.int .i64 p, .int .i64 a] w fun e w' => e = .returned (.bool true) ∧ Below w.heap.size w w' := by
  have hkb : ((k : Int) == 0) = false := by rw [beq_eq_false_iff_ne]; omega
  have hkp : (0 : Int) < (k : Int) := by omega
  by_cases hc : p < f * (k : Int)
  all_goals
    (first | rw [if_pos hc] at hB | rw [if_neg hc] at hB)
    go_enter Try.func3, Try.ntmps3
    go_wp2_with fail
    refine (zzSizes_any p a k _ hp hp2 ha ha2 hka hk2 F HF).mono ?_
    rintro e w1 ⟨rfl, hf1, hb1, hs1'⟩
    go_wp2_with fail
    refine (least_k p a k _ hp hp2 ha ha2 hka).mono ?_
    rintro e w1 ⟨rfl, rfl⟩
    go_wp2_with fail
    refine (floor_k a f _ hf).mono ?_
    rintro e w1 ⟨rfl, rfl⟩
    go_wp2_with fail
    refine (balanced_b _ k k _ f a F S _ hk2 hf0 ha2 hf1 hB).mono ?_
    rintro e w2 ⟨rfl, m, rfl⟩
    have hcell : w1.cell? ⟨w.heap.size, 0, none⟩ = some (.int .i64 s0) := by
      obtain ⟨v, hv, he⟩ := hf1.1 0 hk1
      rw [hv, he hk1, hs0.out]
    go_wp2_with fail
    refine (least_k p s0 k _ hp hp2 hs1 hs2 hks).mono ?_
    rintro e w3 ⟨rfl, hw3⟩
    subst hw3
    go_wp2_with fail
    refine (zzSizes_any p s0 k _ hp hp2 hs1 hs2 hks hk2 F HF2).mono ?_
    rintro e w4 ⟨rfl, hf4, hb4, hs4⟩
    go_wp2_with fail
    refine (equal_b _ _ k k k F _ hk2 hf4 (filled_below (filled_drew (m := m) hf1) hb4 hs1')).mono ?_
    rintro e w5 ⟨rfl, m2, rfl⟩
    go_wp2_with fail
    go_ret
    exact ⟨rfl, below_drewN ((below_drewN hb1 m).trans (hb4.mono hb1.size)) _⟩

set_option maxHeartbeats 1000000 in
/-- No part: the payload is nothing. -/
theorem fix_none (a f : Int) (F S : Nat → Int) (w : World) (ha : 1 ≤ a) (ha2 : a ≤ 1073741824)
    (hka : Hid (parts 0 a = ((0 : Nat) : Int))) (hf : Hid (flo a = f)) (hf0 : 0 ≤ f) (HF : Hid (∀ t, F t = szAt 0 ((0 : Nat) : Int) (flo a) t)) (hB : Bal 0 0 f a F S) :
    Calls Try.prog 3 #[.int .i64 0, .int .i64 a] w fun e w' => e = .returned (.bool true) ∧ Below w.heap.size w w' := by
  go_enter Try.func3, Try.ntmps3
  go_wp2_with fail
  refine (zzSizes_any 0 a 0 _ (by omega) (by omega) ha ha2 hka (by omega) F HF).mono ?_
  rintro e w1 ⟨rfl, hf1, hb1, hs1'⟩
  go_wp2_with fail
  refine (least_k 0 a 0 _ (by omega) (by omega) ha ha2 hka).mono ?_
  rintro e w1 ⟨rfl, rfl⟩
  go_wp2_with fail
  refine (floor_k a f _ hf).mono ?_
  rintro e w1 ⟨rfl, rfl⟩
  go_wp2_with fail
  refine (balanced_b _ 0 0 _ f a F S _ (by omega) hf0 ha2 hf1 hB).mono ?_
  rintro e w2 ⟨rfl, m, rfl⟩
  go_wp2_with fail
  go_ret
  exact ⟨rfl, below_drewN hb1 _⟩

set_option maxHeartbeats 2000000 in
theorem fix_any (p a : Int) (w : World) :
    Calls Try.prog 3 #[.int .i64 p, .int .i64 a] w fun e w' => e = .returned (.bool true) ∧ Below w.heap.size w w' := by
  by_cases h1 : a < 1
  · go_enter Try.func3, Try.ntmps3
    go_wp2_with fail
    go_ret
    exact ⟨rfl, Below.refl _ _⟩
  by_cases h2 : 1073741824 < a
  · go_enter Try.func3, Try.ntmps3
    go_wp2_with fail
    go_ret
    exact ⟨rfl, Below.refl _ _⟩
  by_cases h5 : p < 0
  · go_enter Try.func3, Try.ntmps3
    go_wp2_with fail
    go_ret
    exact ⟨rfl, Below.refl _ _⟩
  by_cases h6 : 1073741824 < p
  · go_enter Try.func3, Try.ntmps3
    go_wp2_with fail
    go_ret
    exact ⟨rfl, Below.refl _ _⟩
  by_cases h7 : 65536 ≤ p / a
  · go_enter Try.func3, Try.ntmps3
    go_wp2_with fail
    go_ret
    exact ⟨rfl, Below.refl _ _⟩
  obtain ⟨k, hk⟩ := Int.eq_ofNat_of_zero_le (parts_nonneg p a (by omega) (by omega))
  have hk2 := parts_le p a (by omega) (by omega)
  rw [hk] at hk2
  have hf1 : 1 ≤ flo a ∧ flo a ≤ 8 := by unfold flo; split <;> omega
  obtain ⟨F, hF⟩ : ∃ F : Nat → Int, ∀ t, F t = szAt p k (flo a) t := ⟨_, fun _ => rfl⟩
  obtain ⟨S, hS⟩ := bal_ex p a (flo a) k F (by omega) (by omega) (by omega) hk (by omega) rfl hF
  by_cases h0 : k = 0
  · subst h0
    have hlo := parts_lo p a (by omega)
    rw [hk] at hlo
    have : p = 0 := by simp at hlo; omega
    subst this
    exact fix_none a (flo a) F S w (by omega) (by omega) hk rfl (by omega) hF (by simpa using hS)
  · have hk1 : 1 ≤ k := by omega
    have hpf := parts_first p a (by omega) (by rw [hk]; omega)
    rw [hk] at hpf
    have h0F : F 0 = szAt p k (flo a) 0 := hF 0
    rw [← h0F] at hpf
    have hm0 : 0 ≤ flo a * (k : Int) := Int.mul_nonneg (by omega) (by omega)
    have hm1 : flo a * (k : Int) ≤ 8 * (k : Int) := Int.mul_le_mul_of_nonneg_right (by omega) (by omega)
    exact fix_in p a (flo a) (F 0) k F S w (by omega) (by omega) (by omega) (by omega) (by omega) hk hk1 (by omega) rfl (by omega) hm0 (by omega) hF hS rfl hpf.2.2.1 (by omega) hpf.1 (by rw [hpf.2.1]; exact hF)
end Go.Proofs.Qxb6619872a.Siz
