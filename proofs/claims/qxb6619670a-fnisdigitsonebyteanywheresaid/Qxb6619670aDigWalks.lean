import Derived.Test.Qxb6619670aProg
import Derived.WalkKit
import Derived.Test.Qxb6619670aDigPlain
namespace Go.Proofs.Qxb6619670a.Dig
open Go.RowKit

theorem bytes_at (s : ByteArray) (k : Nat) (h : k < s.size) : s.data.toList.take (k + 1) = s.data.toList.take k ++ [s[k]] := by
  rw [List.take_succ_eq_append_getElem (by simpa using h)]; rfl
theorem toList_data (s : ByteArray) : s.toList = s.data.toList := ByteArray.toList_eq s
theorem size_data (s : ByteArray) : s.data.toList.length = s.size := rfl
theorem empty_yes (s : ByteArray) (h : s.size = 0) : s.toList.isEmpty = true := by
  rw [toList_data, List.isEmpty_iff_length_eq_zero, size_data, h]
theorem empty_no (s : ByteArray) (h : ¬ s.size = 0) : s.toList.isEmpty = false := by
  rw [toList_data, List.isEmpty_eq_false_iff]; intro h1; have := congrArg List.length h1; rw [size_data] at this; exact h this
theorem all_step (s : ByteArray) (k : Nat) (h : k < s.size) (ha : (s.data.toList.take k).all isD = true) (hc : isD s[k] = true) : (s.data.toList.take (k + 1)).all isD = true := by
  rw [bytes_at s k h, List.all_append, ha]; simp [hc]
theorem digs_no (s : ByteArray) (k : Nat) (h : k < s.size) (hc : isD s[k] = false) : digs s.data.toList = false := by
  have : s.data.toList.all isD = false := by
    rw [List.all_eq_false]
    exact ⟨s[k], by simp [ByteArray.getElem_eq_getElem_data], by simp [hc]⟩
  simp [digs, this]
theorem digs_yes (s : ByteArray) (h : 0 < s.size) (ha : (s.data.toList.take s.size).all isD = true) : digs s.data.toList = true := by
  have e : s.data.toList.take s.size = s.data.toList := List.take_of_length_le (by simp)
  rw [e] at ha
  have : s.data.toList.isEmpty = false := by rw [← toList_data]; exact empty_no s (by omega)
  simp only [digs, this, ha]; rfl

theorem isD_yes {c : UInt8} (h : 48 ≤ (c.toNat : Int) ∧ (c.toNat : Int) ≤ 57) : isD c = true := by simp [isD, h]
theorem isD_no {c : UInt8} (h : (c.toNat : Int) < 48 ∨ 57 < (c.toNat : Int)) : isD c = false := by
  unfold isD; rcases h with h | h
  · rw [decide_eq_false (by omega)]; rfl
  · rw [decide_eq_false (p := (c.toNat : Int) ≤ 57) (by omega), Bool.and_false]
theorem ret_bool {a b : Bool} (h : a = b) : Ending.returned (.bool a) = .returned (.bool b) := by rw [h]

set_option maxHeartbeats 400000 in
theorem isDigits_any (s : ByteArray) (w : World) (hs : s.size ≤ maxLen) :
    Calls Try.prog 15 #[.string s] w fun e w' => e = .returned (.bool (digs s.data.toList)) ∧ w' = w := by
  unfold maxLen at hs
  by_cases h0 : s.size = 0
  · have hE : s.toList.isEmpty = true := empty_yes s h0
    have hd : digs s.data.toList = false := by rw [← toList_data]; simp [digs, hE]
    have HD : Hid (digs s.data.toList = false) := hd
    clear hd
    go_enter Try.func15, Try.ntmps15
    go_wp2
    go_ret
    exact ⟨ret_bool HD.out.symm, rfl⟩
  · have hE : s.toList.isEmpty = false := empty_no s h0
    go_enter Try.func15, Try.ntmps15
    go_wp2
    go_loop [8] (fun i => ∃ k : Nat, k ≤ s.size ∧ i = .int .i64 k ∧ Hid ((s.data.toList.take k).all isD = true)) (fun i => s.size - (intOf i).toNat)
    case atStart => exact ⟨0, Nat.zero_le _, rfl, rfl⟩
    case round =>
      obtain ⟨k, hk, rfl, ha⟩ := hrel
      by_cases hlt : k < s.size
      · go_wp2
        · go_ret
          exact ⟨ret_bool (digs_no s k hlt (isD_no (by omega))).symm, rfl⟩
        · go_round
          case rel => exact ⟨k + 1, by omega, by go_num, all_step s k hlt ha.out (isD_yes (by omega))⟩
          case measure => simp [intOf]; omega
        · go_ret
          exact ⟨ret_bool (digs_no s k hlt (isD_no (by omega))).symm, rfl⟩
      · obtain rfl : k = s.size := by omega
        go_wp2
        go_ret
        exact ⟨ret_bool (digs_yes s (by omega) ha.out).symm, rfl⟩

theorem zzIsDigits_any (s : ByteArray) (w : World) (hs : s.size ≤ maxLen) :
    Calls Try.prog 13 #[.string s] w fun e w' => e = .returned (.bool (digs s.data.toList)) ∧ w' = w := by
  go_enter Try.func13, Try.ntmps13
  go_wp2_with fail
  refine (isDigits_any s _ hs).mono ?_
  rintro e w' ⟨rfl, rfl⟩
  go_wp2_with fail
  go_ret
  exact ⟨rfl, rfl⟩

/-- Are the two lengths together at most 2^20? -/
def okLen (a b : Nat) : Bool := decide (a + b ≤ 1048576)
theorem zzBytes_any (x y : ByteArray) (c : Int) (w : World) (hx : x.size ≤ maxLen) (hy : y.size ≤ maxLen) :
    Calls Try.prog 12 #[.string x, .int .u8 c, .string y] w fun e w' => e = .returned (.bool (okLen x.size y.size)) ∧ w' = w := by
  unfold maxLen at hx hy
  by_cases h1 : x.size ≤ 1048576
  · by_cases h2 : y.size ≤ 1048576
    · by_cases h3 : x.size + y.size ≤ 1048576
      · go_enter Try.func12, Try.ntmps12
        go_wp2
        go_ret
        exact ⟨ret_bool (by simp [okLen, h3]), rfl⟩
      · go_enter Try.func12, Try.ntmps12
        go_wp2
        go_ret
        exact ⟨ret_bool (by simp [okLen]; omega), rfl⟩
    · go_enter Try.func12, Try.ntmps12
      go_wp2
      go_ret
      exact ⟨ret_bool (by simp [okLen]; omega), rfl⟩
  · go_enter Try.func12, Try.ntmps12
    go_wp2
    go_ret
    exact ⟨ret_bool (by simp [okLen]; omega), rfl⟩
end Go.Proofs.Qxb6619670a.Dig
