import Derived.Test.Qxb6619872aSizMake
namespace Go.Proofs.Qxb6619872a.Siz
open Go.RowKit

/-- What 'isBalanced' looks at: z the sizes, S their sums. -/
def Bal (n : Nat) (total lo hi : Int) (z S : Nat → Int) : Prop :=
  (∀ j, j < n → lo ≤ z j ∧ z j ≤ hi) ∧ (∀ j, j + 1 < n → z (j + 1) ≤ z j) ∧ (0 < n → z 0 - z (n - 1) ≤ 1) ∧ S 0 = 0 ∧ (∀ j, j < n → S (j + 1) = S j + z j) ∧ (∀ j, j ≤ n → 0 ≤ S j ∧ S j ≤ 70368744177664) ∧ S n = total

theorem bal_ex (p lim f : Int) (k : Nat) (F : Nat → Int) (hp : 0 ≤ p) (hl : 1 ≤ lim) (hl2 : lim ≤ 1073741824) (hk : parts p lim = (k : Int)) (hk2 : k ≤ 65536) (hf : flo lim = f) (hF : ∀ t, F t = szAt p k f t) :
    ∃ S, Bal k (if p < f * k then f * k else p) f lim F S := by
  have hlo := parts_lo p lim hl
  have hfl : f ≤ lim ∧ 1 ≤ f := by rw [← hf]; unfold flo; split <;> omega
  rw [hk] at hlo
  by_cases h0 : k = 0
  · subst h0
    have : p = 0 := by simp at hlo; omega
    subst this
    refine ⟨fun _ => 0, fun j hj => by omega, fun j hj => by omega, fun h => by omega, rfl, fun j hj => by omega, fun j _ => by simp, by simp⟩
  · have hk1 : (1 : Int) ≤ (k : Int) := by omega
    refine ⟨fun t => pre p k f t, fun j _ => ?_, fun j _ => ?_, fun _ => ?_, ?_, fun j _ => ?_, fun j hj => ?_, ?_⟩
    · rw [hF j]; exact ⟨szAt_ge p k f j, szAt_le p k f lim j (by omega) hk1 hlo hfl.1⟩
    · rw [hF, hF]; exact (szAt_mono p k f j (j + 1 : Nat) (by omega)).1
    · rw [hF, hF]; exact (szAt_mono p k f (0 : Nat) (k - 1 : Nat) (by omega)).2
    · exact pre_zero p k f hk1
    · rw [hF j]; exact pre_succ p k f j
    · have := pre_bd p k f lim hk1 (by omega) hlo hfl.1 hl2 j
      refine ⟨this.1, ?_⟩; show pre p k f j ≤ _; omega
    · exact pre_all p k f hk1

theorem balanced_b (g n c : Nat) (total lo hi : Int) (z S : Nat → Int) (w : World) (hn : n ≤ 65536) (hlo : 0 ≤ lo) (hhi : hi ≤ 1073741824)
    (h1 : Filled g n n z w) (hB : Bal n total lo hi z S) :
    Calls Try.prog 8 #[.slice (some ⟨g, 0, none⟩) n c, .int .i64 total, .int .i64 lo, .int .i64 hi] w fun e w' => e = .returned (.bool true) ∧ ∃ m, w' = w.drewN m :=
  balanced_any g n c total lo hi z S w hn hlo hhi (fun j hj => by obtain ⟨v, hv, he⟩ := h1.1 j hj; rw [hv, he hj]) hB.1 hB.2.1 hB.2.2.1 hB.2.2.2.1 hB.2.2.2.2.1 hB.2.2.2.2.2.1 hB.2.2.2.2.2.2

theorem equal_b (g1 g2 n c1 c2 : Nat) (z : Nat → Int) (w : World) (hn : n ≤ 65536) (h1 : Filled g1 n n z w) (h2 : Filled g2 n n z w) :
    Calls Try.prog 9 #[.slice (some ⟨g1, 0, none⟩) n c1, .slice (some ⟨g2, 0, none⟩) n c2] w fun e w' => e = .returned (.bool true) ∧ ∃ m, w' = w.drewN m :=
  equal_any g1 g2 n c1 c2 z w hn (fun j hj => by obtain ⟨v, hv, he⟩ := h1.1 j hj; rw [hv, he hj]) (fun j hj => by obtain ⟨v, hv, he⟩ := h2.1 j hj; rw [hv, he hj])

theorem least_k (p lim : Int) (k : Nat) (w : World) (hp : 0 ≤ p) (hp2 : p ≤ 1073741824) (hl : 1 ≤ lim) (hl2 : lim ≤ 1073741824) (hk : Hid (parts p lim = (k : Int))) :
    Calls Try.prog 6 #[.int .i64 p, .int .i64 lim] w fun e w' => e = .returned (.int .i64 (k : Int)) ∧ w' = w := by
  have := least_any p lim w hp hp2 hl hl2
  rw [hk.out] at this
  exact this
theorem floor_k (lim f : Int) (w : World) (hf : Hid (flo lim = f)) :
    Calls Try.prog 7 #[.int .i64 lim] w fun e w' => e = .returned (.int .i64 f) ∧ w' = w := by
  have := floor_any lim w
  rw [hf.out] at this
  exact this

theorem flo_8 {a : Int} (h : 8 ≤ a) : flo a = 8 := by unfold flo; rw [if_neg (by omega)]
theorem filled_below {B g k j : Nat} {F : Nat → Int} {w w' : World} (h : Filled g k j F w) (hb : Below B w w') (hg : g < B) : Filled g k j F w' :=
  ⟨fun t ht => by obtain ⟨v, hv, he⟩ := h.1 t ht; exact ⟨v, (hb.cell (p := ⟨g, t, none⟩) hg).trans hv, he⟩, fun t => (hb.frozen (p := ⟨g, t, none⟩) hg).trans (h.2 t)⟩
theorem filled_drew {g k j m : Nat} {F : Nat → Int} {w : World} (h : Filled g k j F w) : Filled g k j F (w.drewN m) := h

set_option maxHeartbeats 1000000 in
theorem depends_in (p a b : Int) (k : Nat) (F S : Nat → Int) (w : World) (hp : 0 ≤ p) (hp2 : p ≤ 1073741824) (ha : 8 ≤ a) (ha2 : a ≤ 1073741824) (hb : 8 ≤ b) (hb2 : b ≤ 1073741824)
    (hqa : p / a < 65536) (hqb : p / b < 65536) (hka : Hid (parts p a = (k : Int))) (hkb : Hid (parts p b = (k : Int))) (hk2 : k ≤ 65536) (HF : Hid (∀ t, F t = szAt p k 8 t)) (hB : Bal k (if p < 8 * (k : Int) then 8 * (k : Int) else p) 8 a F S) :
    Calls Try.prog 4 #[.int .i64 p, .int .i64 a, .int .i64 b] w fun e w' => e = .returned (.bool true) ∧ Below w.heap.size w w' := by
  have HFa : Hid (∀ t, F t = szAt p k (flo a) t) := by rw [flo_8 ha]; exact HF
  have HFb : Hid (∀ t, F t = szAt p k (flo b) t) := by rw [flo_8 hb]; exact HF
  by_cases hc : p < 8 * (k : Int)
  all_goals
    (first | rw [if_pos hc] at hB | rw [if_neg hc] at hB)
    go_enter Try.func4, Try.ntmps4
    go_wp2_with fail
    refine (least_k p a k _ hp hp2 (by omega) ha2 hka).mono ?_
    rintro e w ⟨rfl, rfl⟩
    go_wp2_with fail
    refine (least_k p b k _ hp hp2 (by omega) hb2 hkb).mono ?_
    rintro e w ⟨rfl, rfl⟩
    go_wp2_with fail
    refine (zzSizes_any p a k _ hp hp2 (by omega) ha2 hka hk2 F HFa).mono ?_
    rintro e w1 ⟨rfl, hf1, hb1, hs1⟩
    go_wp2_with fail
    refine (zzSizes_any p b k _ hp hp2 (by omega) hb2 hkb hk2 F HFb).mono ?_
    rintro e w2 ⟨rfl, hf2, hb2', hs2⟩
    go_wp2_with fail
    have hf1' := filled_below hf1 hb2' hs1
    refine (balanced_b _ k k _ 8 a F S _ hk2 (by omega) ha2 hf1' hB).mono ?_
    rintro e w3 ⟨rfl, m, rfl⟩
    go_wp2_with fail
    refine (equal_b _ _ k k k F _ hk2 (filled_drew hf1') (filled_drew hf2)).mono ?_
    rintro e w4 ⟨rfl, m2, rfl⟩
    go_wp2_with fail
    go_ret
    exact ⟨rfl, below_drewN (hb1.trans (hb2'.mono hb1.size)) _⟩

set_option maxHeartbeats 1000000 in
theorem depends_apart (p a b : Int) (k l : Nat) (w : World) (hp : 0 ≤ p) (hp2 : p ≤ 1073741824) (ha : 8 ≤ a) (ha2 : a ≤ 1073741824) (hb : 8 ≤ b) (hb2 : b ≤ 1073741824)
    (hqa : p / a < 65536) (hqb : p / b < 65536) (hka : Hid (parts p a = (k : Int))) (hkb : Hid (parts p b = (l : Int))) (hne : ((l : Int) != (k : Int)) = true) :
    Calls Try.prog 4 #[.int .i64 p, .int .i64 a, .int .i64 b] w fun e w' => e = .returned (.bool true) ∧ Below w.heap.size w w' := by
  go_enter Try.func4, Try.ntmps4
  go_wp2_with fail
  refine (least_k p a k _ hp hp2 (by omega) ha2 hka).mono ?_
  rintro e w ⟨rfl, rfl⟩
  go_wp2_with fail
  refine (least_k p b l _ hp hp2 (by omega) hb2 hkb).mono ?_
  rintro e w ⟨rfl, rfl⟩
  go_wp2_with fail
  go_ret
  exact ⟨rfl, Below.refl _ _⟩

set_option maxHeartbeats 2000000 in
theorem depends_any (p a b : Int) (w : World) :
    Calls Try.prog 4 #[.int .i64 p, .int .i64 a, .int .i64 b] w fun e w' => e = .returned (.bool true) ∧ Below w.heap.size w w' := by
  by_cases h1 : a < 1
  · go_enter Try.func4, Try.ntmps4
    go_wp2_with fail
    go_ret
    exact ⟨rfl, Below.refl _ _⟩
  by_cases h2 : 1073741824 < a
  · go_enter Try.func4, Try.ntmps4
    go_wp2_with fail
    go_ret
    exact ⟨rfl, Below.refl _ _⟩
  by_cases h3 : b < 1
  · go_enter Try.func4, Try.ntmps4
    go_wp2_with fail
    go_ret
    exact ⟨rfl, Below.refl _ _⟩
  by_cases h4 : 1073741824 < b
  · go_enter Try.func4, Try.ntmps4
    go_wp2_with fail
    go_ret
    exact ⟨rfl, Below.refl _ _⟩
  by_cases h5 : p < 0
  · go_enter Try.func4, Try.ntmps4
    go_wp2_with fail
    go_ret
    exact ⟨rfl, Below.refl _ _⟩
  by_cases h6 : 1073741824 < p
  · go_enter Try.func4, Try.ntmps4
    go_wp2_with fail
    go_ret
    exact ⟨rfl, Below.refl _ _⟩
  by_cases h7 : 65536 ≤ p / a
  · go_enter Try.func4, Try.ntmps4
    go_wp2_with fail
    go_ret
    exact ⟨rfl, Below.refl _ _⟩
  by_cases h8 : 65536 ≤ p / b
  · go_enter Try.func4, Try.ntmps4
    go_wp2_with fail
    go_ret
    exact ⟨rfl, Below.refl _ _⟩
  by_cases h9 : a < 8
  · go_enter Try.func4, Try.ntmps4
    go_wp2_with fail
    go_ret
    exact ⟨rfl, Below.refl _ _⟩
  by_cases h10 : b < 8
  · go_enter Try.func4, Try.ntmps4
    go_wp2_with fail
    go_ret
    exact ⟨rfl, Below.refl _ _⟩
  obtain ⟨k, hk⟩ := Int.eq_ofNat_of_zero_le (parts_nonneg p a (by omega) (by omega))
  obtain ⟨l, hl⟩ := Int.eq_ofNat_of_zero_le (parts_nonneg p b (by omega) (by omega))
  have hk2 := parts_le p a (by omega) (by omega)
  rw [hk] at hk2
  by_cases he : l = k
  · subst he
    obtain ⟨F, hF⟩ : ∃ F : Nat → Int, ∀ t, F t = szAt p l 8 t := ⟨_, fun _ => rfl⟩
    obtain ⟨S, hS⟩ := bal_ex p a 8 l F (by omega) (by omega) (by omega) hk (by omega) (flo_8 (by omega)) hF
    exact depends_in p a b l F S w (by omega) (by omega) (by omega) (by omega) (by omega) (by omega) (by omega) (by omega) hk hl (by omega) hF hS
  · exact depends_apart p a b k l w (by omega) (by omega) (by omega) (by omega) (by omega) (by omega) (by omega) (by omega) hk hl (by rw [bne_iff_ne]; omega)
end Go.Proofs.Qxb6619872a.Siz
