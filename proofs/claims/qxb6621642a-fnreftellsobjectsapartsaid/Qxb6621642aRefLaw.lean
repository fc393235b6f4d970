import Derived.Test.Qxb6621642aRefApart
namespace Go.Proofs.Qxb6621642a.Ref
open Go.RowKit

theorem not_has {s : ByteArray} (h : s.data.toList.contains 47 = false) : (47 : UInt8) ∉ s.data.toList := by
  intro e; rw [List.contains_iff_mem.2 e] at h; exact absurd h (by decide)
theorem ref_size (k n m : ByteArray) (hk : k.size ≤ 65536) (hn : n.size ≤ 65536) (hm : m.size ≤ 65536) : (refS k n m).size ≤ 1000000 := by
  unfold refS
  split
  · rw [ByteArray.size_append, size_sl, ByteArray.size_append, size_sl]; omega
  · rw [ByteArray.size_append, size_sl]; omega

theorem cnt1 {k : List UInt8} (hk : (47 : UInt8) ∉ k) : (((k ++ [47]).count 47 : Nat) : Int) = 1 := by
  rw [List.count_append, List.count_eq_zero.2 hk]; rfl
theorem cnt2 {k m : List UInt8} (hk : (47 : UInt8) ∉ k) (hm : (47 : UInt8) ∉ m) : (((k ++ 47 :: m ++ [47]).count 47 : Nat) : Int) = 2 := by
  rw [List.count_append, List.count_append, List.count_cons_self, List.count_eq_zero.2 hk, List.count_eq_zero.2 hm]; rfl
theorem cnt3 {s : ByteArray} {k m n : List UInt8} (hd : s.data.toList = k ++ 47 :: (m ++ 47 :: n)) (hk : (47 : UInt8) ∉ k) (hm : (47 : UInt8) ∉ m) (hn : (47 : UInt8) ∉ n) : 1 + ((s.data.toList.count 47 : Nat) : Int) = 3 := by
  rw [hd, List.count_append, List.count_cons_self, List.count_append, List.count_cons_self, List.count_eq_zero.2 hk, List.count_eq_zero.2 hm, List.count_eq_zero.2 hn]; rfl
theorem cnt2' {s : ByteArray} {k n : List UInt8} (hd : s.data.toList = k ++ 47 :: n) (hk : (47 : UInt8) ∉ k) (hn : (47 : UInt8) ∉ n) : 1 + ((s.data.toList.count 47 : Nat) : Int) = 2 := by
  rw [hd, List.count_append, List.count_cons_self, List.count_eq_zero.2 hk, List.count_eq_zero.2 hn]; rfl

set_option maxHeartbeats 4000000 in
theorem apart_in (a k n m a' k' n' m' r1 r2 : ByteArray) (l l' : Option Nat) (c c' : Nat) (w : World) (ha : a.size ≤ 65536) (hk : k.size ≤ 65536) (hn : n.size ≤ 65536) (hm : m.size ≤ 65536) (hc : c ≤ 4096)
    (ha' : a'.size ≤ 65536) (hk' : k'.size ≤ 65536) (hn' : n'.size ≤ 65536) (hm' : m'.size ≤ 65536) (hc' : c' ≤ 4096) (hl : LenIs (.map l) c w) (hl' : LenIs (.map l') c' w)
    (sk : Hid (k.data.toList.contains 47 = false)) (sn : Hid (n.data.toList.contains 47 = false)) (sm : Hid (m.data.toList.contains 47 = false)) (sk' : Hid (k'.data.toList.contains 47 = false)) (sn' : Hid (n'.data.toList.contains 47 = false)) (sm' : Hid (m'.data.toList.contains 47 = false))
    (e1 : Hid (refS k n m = r1)) (e2 : Hid (refS k' n' m' = r2)) (hz : r1.size ≤ 1000000) :
    Calls Try.prog 4 #[.string a, .string k, .string n, .string m, .map l, .string a', .string k', .string n', .string m', .map l'] w fun e w' => e = .returned (.bool true) ∧ Below w.heap.size w w' := by
  unfold LenIs at hl hl'
  go_enter Try.func4, Try.ntmps4
  go_wp2_with fail
  refine (has_slash_any k false _ (by omega) sk).mono ?_
  rintro e w ⟨rfl, rfl⟩
  go_wp2_with fail
  refine (has_slash_any n false _ (by omega) sn).mono ?_
  rintro e w ⟨rfl, rfl⟩
  go_wp2_with fail
  refine (has_slash_any m false _ (by omega) sm).mono ?_
  rintro e w ⟨rfl, rfl⟩
  go_wp2_with fail
  refine (has_slash_any k' false _ (by omega) sk').mono ?_
  rintro e w ⟨rfl, rfl⟩
  go_wp2_with fail
  refine (has_slash_any n' false _ (by omega) sn').mono ?_
  rintro e w ⟨rfl, rfl⟩
  go_wp2_with fail
  refine (has_slash_any m' false _ (by omega) sm').mono ?_
  rintro e w ⟨rfl, rfl⟩
  go_wp2_with fail
  refine (hdr_any a k n m r1 l _ (by omega) hn hm e1).mono ?_
  rintro e w1 ⟨rfl, hb1⟩
  clear hl hl'
  go_wp2_with fail
  refine (hdr_any a' k' n' m' r2 l' _ (by omega) hn' hm' e2).mono ?_
  rintro e w2 ⟨rfl, hb2⟩
  have hb : Below w.heap.size w w2 := hb1.trans (hb2.mono hb1.size)
  clear hb1 hb2
  have hk4 := not_has sk.out
  have hn4 := not_has sn.out
  have hm4 := not_has sm.out
  by_cases hr : isRole k = true
  · have HR : Hid (isRole k = true) := hr
    have hw := ways_role (n := n) (n' := n') hk4 (not_has sk'.out) hm4 (not_has sm'.out) hr
    rw [e1.out, e2.out] at hw
    have HD : Hid (r1.data.toList = k.data.toList ++ 47 :: (m.data.toList ++ 47 :: n.data.toList)) := by have := ref_role k n m hr; rw [e1.out] at this; exact this
    have HK : Hid ((47 : UInt8) ∉ k.data.toList) := hk4
    have HN : Hid ((47 : UInt8) ∉ n.data.toList) := hn4
    have HM : Hid ((47 : UInt8) ∉ m.data.toList) := hm4
    clear hr hk4 hn4 hm4 sk sn sm sk' sn' sm' e1 e2
    rcases hw with ⟨q1, q4⟩ | ⟨q1, q2, q4⟩ | ⟨q1, q2, q3, q4⟩ | ⟨q1, q2, q3, q4⟩
    all_goals
      go_wp2_with (go_at_call 5; refine (role_any k true _ HR).mono ?_; rintro e w3 ⟨rfl, rfl⟩)
      refine (count_t r1 3 _ hz (cnt3 HD.out HK.out HM.out HN.out)).mono ?_
      rintro e w4 ⟨rfl, rfl⟩
      go_wp2_with fail
      refine (field_t r1 k [] k.data.toList (47 :: (m.data.toList ++ 47 :: n.data.toList)) 0 _ hz (by rw [HD.out]; rfl) (.inl rfl) HK.out (.inr ⟨_, rfl⟩) rfl rfl).mono ?_
      rintro e w5 ⟨rfl, rfl⟩
      go_wp2_with fail
      refine (field_t r1 m (k.data.toList ++ [47]) m.data.toList (47 :: n.data.toList) 1 _ hz (by rw [HD.out]; simp) (.inr ⟨_, rfl⟩) HM.out (.inr ⟨_, rfl⟩) (cnt1 HK.out) rfl).mono ?_
      rintro e w6 ⟨rfl, rfl⟩
      go_wp2_with fail
      refine (field_t r1 n (k.data.toList ++ 47 :: m.data.toList ++ [47]) n.data.toList [] 2 _ hz (by rw [HD.out]; simp) (.inr ⟨_, rfl⟩) HN.out (.inl rfl) (cnt2 HK.out HM.out) rfl).mono ?_
      rintro e w7 ⟨rfl, rfl⟩
      go_wp2_with fail
      go_ret
      exact ⟨rfl, hb⟩
  · have HR : Hid (isRole k = false) := Bool.eq_false_iff.2 hr
    have hw := ways_plain (n := n) (n' := n') hk4 (not_has sk'.out) hm4 (not_has sm'.out) HR.out
    rw [e1.out, e2.out] at hw
    have HD : Hid (r1.data.toList = k.data.toList ++ 47 :: n.data.toList) := by have := ref_plain k n m HR.out; rw [e1.out] at this; exact this
    have HK : Hid ((47 : UInt8) ∉ k.data.toList) := hk4
    have HN : Hid ((47 : UInt8) ∉ n.data.toList) := hn4
    clear hr hk4 hn4 hm4 sk sn sm sk' sn' sm' e1 e2
    rcases hw with ⟨q1, q4⟩ | ⟨q1, q2, q4⟩ | ⟨q1, q2, q4⟩
    all_goals
      go_wp2_with (go_at_call 5; refine (role_any k false _ HR).mono ?_; rintro e w3 ⟨rfl, rfl⟩)
      refine (count_t r1 2 _ hz (cnt2' HD.out HK.out HN.out)).mono ?_
      rintro e w4 ⟨rfl, rfl⟩
      go_wp2_with fail
      refine (field_t r1 k [] k.data.toList (47 :: n.data.toList) 0 _ hz (by rw [HD.out]; rfl) (.inl rfl) HK.out (.inr ⟨_, rfl⟩) rfl rfl).mono ?_
      rintro e w5 ⟨rfl, rfl⟩
      go_wp2_with fail
      refine (field_t r1 n (k.data.toList ++ [47]) n.data.toList [] 1 _ hz (by rw [HD.out]; simp) (.inr ⟨_, rfl⟩) HN.out (.inl rfl) (cnt1 HK.out) rfl).mono ?_
      rintro e w6 ⟨rfl, rfl⟩
      go_wp2_with fail
      go_ret
      exact ⟨rfl, hb⟩
end Go.Proofs.Qxb6621642a.Ref
