import Derived.Test.Qxb6619872aSizWalks
namespace Go.Proofs.Qxb6619872a.Siz
open Go.RowKit

theorem Try.info3 : (Try.prog.info? 3).map (fun i => (i.zero, i.size, i.bytes)) = some (some (.int .i64 0), 1, 8) := by kernel_rfl

/-- Block B: k numbers, the first j of them F's. -/
def Filled (B k j : Nat) (F : Nat → Int) (wr : World) : Prop :=
  (∀ t, t < k → ∃ v : Int, wr.cell? ⟨B, t, none⟩ = some (.int .i64 v) ∧ (t < j → v = F t)) ∧ ∀ t, wr.frozen? ⟨B, t, none⟩ = false

theorem filled_start {B k : Nat} {F : Nat → Int} {w : World} {base : Nat} (h : w.ownsRow base 3 1 (.slice (some ⟨B, 0, none⟩) k k) k (madeCells (Value.cells (.int .i64 0)) (k * 1)).toList) : Filled B k 0 F w := by
  refine ⟨fun t ht => ⟨0, ?_, fun h0 => by omega⟩, fun t => h.frozenAt t⟩
  rw [h.cellAt t (by omega)]
  show (madeCells #[Value.int .i64 0] (k * 1)).toList[t]? = _
  rw [toList_madeCells_one]
  simp [ht]
theorem hown_lt {B k n : Nat} {w : World} {base e : Nat} {xs : List Value} (h : w.ownsRow base e 1 (.slice (some ⟨B, 0, none⟩) k n) k xs) : B < w.heap.size := (h.lt B rfl).2
theorem filled_mid {B k j : Nat} {F : Nat → Int} {w : World} (h : Filled B k j F w) (hj : j < k) (v : Int) : Filled B k j F (w.setCell ⟨B, j, none⟩ (.int .i64 v)) := by
  refine ⟨fun t ht => ?_, fun t => by rw [World.frozen?_setCell]; exact h.2 t⟩
  obtain ⟨u, hu, hF⟩ := h.1 t ht
  by_cases htj : t = j
  · subst htj
    exact ⟨v, World.cell?_setCell_same _ _ _ hu, fun h0 => absurd h0 (Nat.lt_irrefl _)⟩
  · exact ⟨u, by rw [World.cell?_setCell_other (h := fun e => htj (Addr.mk.inj e).2.1.symm)]; exact hu, hF⟩
theorem filled_last {B k j : Nat} {F : Nat → Int} {w : World} (h : Filled B k j F w) (hj : j < k) {v : Int} (hv : v = F j) : Filled B k (j + 1) F (w.setCell ⟨B, j, none⟩ (.int .i64 v)) := by
  refine ⟨fun t ht => ?_, fun t => by rw [World.frozen?_setCell]; exact h.2 t⟩
  obtain ⟨u, hu, hF⟩ := h.1 t ht
  by_cases htj : t = j
  · subst htj
    exact ⟨v, World.cell?_setCell_same _ _ _ hu, fun h0 => hv⟩
  · exact ⟨u, by rw [World.cell?_setCell_other (h := fun e => htj (Addr.mk.inj e).2.1.symm)]; exact hu, fun h0 => hF (by omega)⟩
theorem sz_yes (p k lim j : Int) (h : j < p % k) : (if p / k + 1 < if lim < 8 then lim else 8 then if lim < 8 then lim else 8 else p / k + 1) = szAt p k (flo lim) j := by
  unfold szAt bal flo
  rw [if_pos h]
  split <;> split <;> omega
theorem sz_no (p k lim j : Int) (h : p % k ≤ j) : (if p / k < if lim < 8 then lim else 8 then if lim < 8 then lim else 8 else p / k) = szAt p k (flo lim) j := by
  unfold szAt bal flo
  rw [if_neg (show ¬ j < p % k by omega)]
  split <;> split <;> omega

set_option maxHeartbeats 1000000 in
theorem sizes_any (p lim : Int) (k : Nat) (w : World) (hp : 0 ≤ p) (hp2 : p ≤ 1073741824) (hl : 1 ≤ lim) (hl2 : lim ≤ 1073741824) (hk : (p + lim - 1) / lim = (k : Int)) (hk2 : k ≤ 65536) (F : Nat → Int) (hF : Hid (∀ t, F t = szAt p k (flo lim) t)) :
    Calls Try.prog 10 #[.int .i64 p, .int .i64 lim] w fun e w' => e = .returned (.slice (some ⟨w.heap.size, 0, none⟩) k k) ∧ Filled w.heap.size k k F w' ∧ Below w.heap.size w w' ∧ w.heap.size < w'.heap.size := by
  obtain ⟨i0, hi, hz0, hz1, hz2⟩ := info_parts Try.info3
  go_enter Try.func10, Try.ntmps10
  go_wp2_with (first | (at_make; refine wpList_make_full _ rfl _ _ 22 rfl w.heap.size 3 i0 (.int .i64 0) 1 Try.underlying22 hi hz0 hz1 _ _ _ _ k rfl rfl hk hk (by rw [hz2]; omega) (by unfold maxLen; omega) (Nat.le_refl _) ?_; intro w1 hown1 hgrow1; rw [hk]))
  go_loopw [18] (fun i wr => ∃ j : Nat, j ≤ k ∧ i = .int .i64 j ∧ Filled w.heap.size k j F wr ∧ Below w.heap.size w wr ∧ w.heap.size < wr.heap.size) (fun i _ => k - (intOf i).toNat)
  case atStart => exact ⟨0, Nat.zero_le _, rfl, filled_start hown1, (Below.refl _ _).grown hgrow1 (Nat.le_refl _) (fun k hk => by cases hk), hown_lt hown1⟩
  case round =>
    obtain ⟨j, hj, rfl, hfil, hbel, hsz⟩ := hrel
    by_cases hlt : j < k
    · obtain ⟨v, hcv, _⟩ := hfil.1 j hlt
      have hfr := hfil.2 j
      have hji : (j : Int) < (k : Int) := by omega
      have hqb := div_mul_le p k (by omega) hp
      go_wp2
      · have hd : (j : Int) < p % k := by assumption
        go_roundw
        case rel => exact ⟨j + 1, by omega, by go_num, filled_last (filled_mid (filled_mid hfil hlt _) hlt _) hlt ((sz_yes p k lim j hd).trans (hF.out j).symm), ((hbel.setCell (Nat.le_refl _) _).setCell (Nat.le_refl _) _).setCell (Nat.le_refl _) _, by simpa [World.setCell] using hsz⟩
        case measure => simp [intOf]; omega
      · have hd : p % k ≤ (j : Int) := by assumption
        go_roundw
        case rel => exact ⟨j + 1, by omega, by go_num, filled_last (filled_mid hfil hlt _) hlt ((sz_no p k lim j hd).trans (hF.out j).symm), (hbel.setCell (Nat.le_refl _) _).setCell (Nat.le_refl _) _, by simpa [World.setCell] using hsz⟩
        case measure => simp [intOf]; omega
    · obtain rfl : j = k := by omega
      go_wp2
      go_ret
      exact ⟨rfl, hfil, hbel, hsz⟩

theorem zzSizes_any (p lim : Int) (k : Nat) (w : World) (hp : 0 ≤ p) (hp2 : p ≤ 1073741824) (hl : 1 ≤ lim) (hl2 : lim ≤ 1073741824) (hk : Hid (parts p lim = (k : Int))) (hk2 : k ≤ 65536) (F : Nat → Int) (hF : Hid (∀ t, F t = szAt p k (flo lim) t)) :
    Calls Try.prog 5 #[.int .i64 p, .int .i64 lim] w fun e w' => e = .returned (.slice (some ⟨w.heap.size, 0, none⟩) k k) ∧ Filled w.heap.size k k F w' ∧ Below w.heap.size w w' ∧ w.heap.size < w'.heap.size := by
  go_enter Try.func5, Try.ntmps5
  go_wp2_with fail
  refine (sizes_any p lim k _ hp hp2 hl hl2 hk.out hk2 F hF).mono ?_
  rintro e w1 ⟨rfl, h1, h2, h3⟩
  go_wp2_with fail
  go_ret
  exact ⟨rfl, h1, h2, h3⟩
end Go.Proofs.Qxb6619872a.Siz
