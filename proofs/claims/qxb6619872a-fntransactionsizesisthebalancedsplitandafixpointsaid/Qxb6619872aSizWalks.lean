import Derived.Test.Qxb6619872aProg
import Derived.WalkKit
import Derived.WalkLawsBesides
import Derived.Deep.QuietTactic
import Derived.BigQuiet
import Derived.Test.Qxb6619872aSizPlain
namespace Go.Proofs.Qxb6619872a.Siz
open Go.RowKit

theorem ret_int {k : IntKind} {a b : Int} (h : a = b) : Ending.returned (.int k a) = .returned (.int k b) := by rw [h]

theorem least_any (p lim : Int) (w : World) (hp : 0 ≤ p) (hp2 : p ≤ 1073741824) (hl : 1 ≤ lim) (hl2 : lim ≤ 1073741824) :
    Calls Try.prog 6 #[.int .i64 p, .int .i64 lim] w fun e w' => e = .returned (.int .i64 (parts p lim)) ∧ w' = w := by
  obtain ⟨h1, h2, h3, h4⟩ := div_mul_le p lim hl hp
  by_cases hc : p / lim * lim < p
  · have HD : Hid (p / lim + 1 = parts p lim) := least_yes p lim hl hc
    go_enter Try.func6, Try.ntmps6
    go_wp2
    go_ret
    exact ⟨ret_int HD.out, rfl⟩
  · have HD : Hid (p / lim = parts p lim) := least_no p lim hl hc
    go_enter Try.func6, Try.ntmps6
    go_wp2
    go_ret
    exact ⟨ret_int HD.out, rfl⟩

theorem floor_any (lim : Int) (w : World) :
    Calls Try.prog 7 #[.int .i64 lim] w fun e w' => e = .returned (.int .i64 (flo lim)) ∧ w' = w := by
  by_cases h : lim < 8
  · have HD : Hid (lim = flo lim) := by unfold flo; rw [if_pos h]; exact rfl
    go_enter Try.func7, Try.ntmps7
    go_wp2
    go_ret
    exact ⟨ret_int HD.out, rfl⟩
  · have HD : Hid (8 = flo lim) := by unfold flo; rw [if_neg h]; exact rfl
    go_enter Try.func7, Try.ntmps7
    go_wp2
    go_ret
    exact ⟨ret_int HD.out, rfl⟩

set_option maxHeartbeats 400000 in
theorem equal_any (g1 g2 n c1 c2 : Nat) (z : Nat → Int) (w : World) (hn : n ≤ 65536)
    (h1 : ∀ j, j < n → w.cell? ⟨g1, j, none⟩ = some (.int .i64 (z j))) (h2 : ∀ j, j < n → w.cell? ⟨g2, j, none⟩ = some (.int .i64 (z j))) :
    Calls Try.prog 9 #[.slice (some ⟨g1, 0, none⟩) n c1, .slice (some ⟨g2, 0, none⟩) n c2] w fun e w' => e = .returned (.bool true) ∧ ∃ m, w' = w.drewN m := by
  go_enter Try.func9, Try.ntmps9
  go_wp2
  go_loopw [5] (fun i wr => ∃ k : Nat, k ≤ n ∧ i = .int .i64 k ∧ ∃ m, wr = w.drewN m) (fun i _ => n - (intOf i).toNat)
  case atStart => exact ⟨0, Nat.zero_le _, rfl, 0, rfl⟩
  case round =>
    obtain ⟨k, hk, rfl, m, rfl⟩ := hrel
    by_cases hlt : k < n
    · have hi : (k : Int) < (n : Int) := by omega
      have hc1 := h1 k hlt
      have hc2 := h2 k hlt
      go_wp2
      go_quiet (fail)
      go_wp2
      go_roundw
      case rel => exact ⟨k + 1, by omega, by go_num, _, rfl⟩
      case measure => simp [intOf]; omega
    · go_wp2
      go_ret
      exact ⟨rfl, m, rfl⟩

set_option maxHeartbeats 1000000 in
theorem balanced_any (g n c : Nat) (total lo hi : Int) (z S : Nat → Int) (w : World) (hn : n ≤ 65536) (hlo : 0 ≤ lo) (hhi : hi ≤ 1073741824)
    (h1 : ∀ j, j < n → w.cell? ⟨g, j, none⟩ = some (.int .i64 (z j))) (hz : ∀ j, j < n → lo ≤ z j ∧ z j ≤ hi) (hm : ∀ j, j + 1 < n → z (j + 1) ≤ z j)
    (hf : 0 < n → z 0 - z (n - 1) ≤ 1) (hS0 : Hid (S 0 = 0)) (hS : ∀ j, j < n → Hid (S (j + 1) = S j + z j)) (hSb : ∀ j, j ≤ n → 0 ≤ S j ∧ S j ≤ 70368744177664) (hSn : Hid (S n = total)) :
    Calls Try.prog 8 #[.slice (some ⟨g, 0, none⟩) n c, .int .i64 total, .int .i64 lo, .int .i64 hi] w fun e w' => e = .returned (.bool true) ∧ ∃ m, w' = w.drewN m := by
  go_enter Try.func8, Try.ntmps8
  go_wp2
  go_loopw [9, 10] (fun s i wr => ∃ k : Nat, k ≤ n ∧ i = .int .i64 k ∧ s = .int .i64 (S k) ∧ ∃ m, wr = w.drewN m) (fun _ i _ => n - (intOf i).toNat)
  case atStart => exact ⟨0, Nat.zero_le _, rfl, by rw [hS0.out], 0, rfl⟩
  case round =>
    obtain ⟨k, hk, rfl, rfl, m, rfl⟩ := hrel
    have hsb := hSb k hk
    by_cases hlt : k < n
    · have hi' : (k : Int) < (n : Int) := by omega
      have hc1 := h1 k hlt
      have hzk := hz k hlt
      have HS := hS k hlt
      by_cases h0 : k = 0
      · subst h0
        clear h1 hz hm hf hS0 hS hSb hSn
        go_wp2
        go_quiet (fail)
        go_wp2
        go_roundw
        case rel => exact ⟨1, by omega, by go_num, by rw [HS.out], _, rfl⟩
        case measure => simp [intOf]; omega
      · obtain ⟨q, rfl⟩ : ∃ q, k = q + 1 := ⟨k - 1, by omega⟩
        have hc2 := h1 q (by omega)
        have hmq := hm q hlt
        clear h1 hz hm hf hS0 hS hSb hSn
        have hq0 : (0 : Int) < (q : Int) + 1 := by omega
        have hqn : (q : Int) < (n : Int) := by omega
        go_wp2
        go_quiet (fail)
        go_wp2
        go_roundw
        case rel => exact ⟨q + 1 + 1, by omega, by go_num, by rw [HS.out], _, rfl⟩
        case measure => simp [intOf]; omega
    · obtain rfl : k = n := by omega
      by_cases h0 : k = 0
      · subst h0
        have HT : Hid (S 0 = total) := hSn
        obtain rfl := HT.out
        clear h1 hz hm hf hS0 hS hSb hSn
        go_wp2
        go_quiet (fail)
        go_wp2
        go_ret
        exact ⟨by simp, _, rfl⟩
      · obtain ⟨q, rfl⟩ : ∃ q, k = q + 1 := ⟨k - 1, by omega⟩
        have hca := h1 0 (by omega)
        have hcb := h1 q (by omega)
        have hza := hz 0 (by omega)
        have hzb := hz q (by omega)
        have hd := hf (by omega)
        rw [Nat.add_sub_cancel] at hd
        obtain rfl := hSn.out
        have hq0 : (0 : Int) < (q : Int) + 1 := by omega
        clear h1 hz hm hf hS0 hS hSb hSn
        go_wp2
        go_quiet (fail)
        go_wp2
        go_ret
        exact ⟨by simp, _, rfl⟩
end Go.Proofs.Qxb6619872a.Siz
