import Derived.Test.Qxb6621703aProg
import Derived.WalkKit
import Derived.WalkLawsBesides
import Derived.Laws.IdiomStrings
import Derived.Test.Qxb6621703aValPlain
namespace Go.Proofs.Qxb6621703a.Val
open Go.RowKit

theorem ret_int {k : IntKind} {a b : Int} (h : a = b) : Ending.returned (.int k a) = .returned (.int k b) := by rw [h]
theorem ret_pair {a b : Int} {x y : Bool} (h : a = b) (g : x = y) : Ending.returned (.tuple #[.int .i64 a, .bool x]) = .returned (.tuple #[.int .i64 b, .bool y]) := by rw [h, g]
theorem size_data (s : ByteArray) : s.data.toList.length = s.size := rfl
theorem bytes_at (s : ByteArray) (k : Nat) (h : k < s.size) : s.data.toList.take (k + 1) = s.data.toList.take k ++ [s[k]] := by
  rw [List.take_succ_eq_append_getElem (by simpa using h)]; rfl
theorem all_step (s : ByteArray) (k : Nat) (h : k < s.size) (ha : (s.data.toList.take k).all isD = true) (hc : isD s[k] = true) : (s.data.toList.take (k + 1)).all isD = true := by
  rw [bytes_at s k h, List.all_append, ha]; simp [hc]
theorem isD_yes {c : UInt8} (h : 48 ≤ (c.toNat : Int) ∧ (c.toNat : Int) ≤ 57) : isD c = true := by simp [isD, h]
theorem isD_no {c : UInt8} (h : (c.toNat : Int) < 48 ∨ 57 < (c.toNat : Int)) : isD c = false := by
  unfold isD; rcases h with h | h
  · rw [decide_eq_false (by omega)]; rfl
  · rw [decide_eq_false (p := (c.toNat : Int) ≤ 57) (by omega), Bool.and_false]
theorem all_no (s : ByteArray) (k : Nat) (h : k < s.size) (hc : isD s[k] = false) : s.data.toList.all isD = false := by
  rw [List.all_eq_false]
  exact ⟨s[k], by simp [ByteArray.getElem_eq_getElem_data], by simp [hc]⟩
theorem val_step (s : ByteArray) (k : Nat) (h : k < s.size) : wrap64 (val (s.data.toList.take (k + 1))) = wrap64 (wrap64 (wrap64 (val (s.data.toList.take k)) * 10) + ((s[k].toNat : Int) - 48)) := by
  rw [bytes_at s k h, val_snoc, wr_mul, wr_add]; rfl

/-- What 'digitsValue' answers. -/
def dval (l : List UInt8) : Int := if l.all isD = true then wrap64 (val l) else 0

theorem dval_no {l : List UInt8} (h : l.all isD = false) : dval l = 0 := by unfold dval; rw [if_neg (by rw [h]; decide)]
theorem dval_yes {l : List UInt8} (h : l.all isD = true) : dval l = wrap64 (val l) := by unfold dval; rw [if_pos h]
theorem take_all (s : ByteArray) : s.data.toList.take s.size = s.data.toList := by rw [← size_data, List.take_length]
theorem wr_zero : wrap64 0 = 0 := wr_in 0 (by omega) (by omega)

set_option maxHeartbeats 400000 in
theorem digits_any (s : ByteArray) (d : Int) (b : Bool) (w : World) (hs : s.size ≤ 1000000) (hd : Hid (dval s.data.toList = d)) (hb : Hid (s.data.toList.all isD = b)) :
    Calls Try.prog 12 #[.string s] w fun e w' => e = .returned (.tuple #[.int .i64 d, .bool b]) ∧ w' = w := by
  obtain ⟨v, hv⟩ : ∃ v : Nat → Int, ∀ k, v k = wrap64 (val (s.data.toList.take k)) := ⟨_, fun _ => rfl⟩
  have HV : Hid (∀ k, v k = wrap64 (val (s.data.toList.take k))) := hv
  clear hv
  go_enter Try.func12, Try.ntmps12
  go_wp2
  go_loop [4, 5] (fun n i => ∃ k : Nat, k ≤ s.size ∧ i = .int .i64 k ∧ n = .int .i64 (v k) ∧ Hid ((s.data.toList.take k).all isD = true)) (fun _ i => s.size - (intOf i).toNat)
  case atStart => exact ⟨0, Nat.zero_le _, rfl, by rw [HV.out, List.take_zero, val_nil, wr_zero], rfl⟩
  case round =>
    obtain ⟨k, hk, rfl, rfl, ha⟩ := hrel
    by_cases hlt : k < s.size
    · have HS : Hid (v (k + 1) = wrap64 (wrap64 (v k * 10) + ((s[k].toNat : Int) - 48))) := by show v (k + 1) = _; rw [HV.out, HV.out]; exact val_step s k hlt
      go_wp2
      · go_ret2
        have hn := all_no s k hlt (isD_no (by omega))
        exact ⟨ret_pair (by rw [← hd.out, dval_no hn]) (by rw [← hb.out, hn]), rfl⟩
      · go_round
        case rel => exact ⟨k + 1, by omega, by go_num, by rw [HS.out], all_step s k hlt ha.out (isD_yes (by omega))⟩
        case measure => simp [intOf]; omega
      · go_ret2
        have hn := all_no s k hlt (isD_no (by omega))
        exact ⟨ret_pair (by rw [← hd.out, dval_no hn]) (by rw [← hb.out, hn]), rfl⟩
    · obtain rfl : k = s.size := by omega
      go_wp2
      go_ret2
      have hy := ha.out
      rw [take_all] at hy
      exact ⟨ret_pair (by rw [← hd.out, dval_yes hy, HV.out, take_all]) (by rw [← hb.out, hy]), rfl⟩

theorem zzdigits_any (s : ByteArray) (d : Int) (b : Bool) (w : World) (hs : s.size ≤ 1000000) (hd : Hid (dval s.data.toList = d)) (hb : Hid (s.data.toList.all isD = b)) :
    Calls Try.prog 8 #[.string s] w fun e w' => e = .returned (.tuple #[.int .i64 d, .bool b]) ∧ w' = w := by
  go_enter Try.func8, Try.ntmps8
  go_wp2_with fail
  refine (digits_any s d b _ hs hd hb).mono ?_
  rintro e w ⟨rfl, rfl⟩
  go_wp2_with fail
  go_ret2
  exact ⟨rfl, rfl⟩

theorem pow_any (m : Nat) (P : Int) (w : World) (hm : m ≤ 1000000) (hP : Hid (wrap64 (p10 m) = P)) :
    Calls Try.prog 9 #[.int .i64 (m : Int)] w fun e w' => e = .returned (.int .i64 P) ∧ w' = w := by
  obtain ⟨v, hv⟩ : ∃ v : Nat → Int, ∀ k, v k = wrap64 (p10 k) := ⟨_, fun _ => rfl⟩
  have HV : Hid (∀ k, v k = wrap64 (p10 k)) := hv
  clear hv
  go_enter Try.func9, Try.ntmps9
  go_wp2
  go_loop [3, 4] (fun n i => ∃ k : Nat, k ≤ m ∧ i = .int .i64 k ∧ n = .int .i64 (v k)) (fun _ i => m - (intOf i).toNat)
  case atStart => exact ⟨0, Nat.zero_le _, rfl, by rw [HV.out, p10_zero, wr_in 1 (by omega) (by omega)]⟩
  case round =>
    obtain ⟨k, hk, rfl, rfl⟩ := hrel
    by_cases hlt : k < m
    · have HS : Hid (v (k + 1) = wrap64 (v k * 10)) := by show v (k + 1) = _; rw [HV.out, HV.out, p10_succ, wr_mul]
      go_wp2
      go_round
      case rel => exact ⟨k + 1, by omega, by go_num, by rw [HS.out]⟩
      case measure => simp [intOf]; omega
    · obtain rfl : k = m := by omega
      go_wp2
      go_ret
      exact ⟨ret_int (by rw [← hP.out, HV.out]), rfl⟩
end Go.Proofs.Qxb6621703a.Val
