import Derived.Test.Qxb6621642aRefLaw
namespace Go.Proofs.Qxb6621642a.Ref
open Go.RowKit

set_option maxHeartbeats 4000000 in
theorem apart_any (a k n m a' k' n' m' : ByteArray) (l l' : Option Nat) (c c' : Nat) (w : World) (hl : LenIs (.map l) c w) (hl' : LenIs (.map l') c' w)
    (ha0 : a.size ≤ maxLen) (hk0 : k.size ≤ maxLen) (hn0 : n.size ≤ maxLen) (hm0 : m.size ≤ maxLen) (ha0' : a'.size ≤ maxLen) (hk0' : k'.size ≤ maxLen) (hn0' : n'.size ≤ maxLen) (hm0' : m'.size ≤ maxLen) :
    Calls Try.prog 4 #[.string a, .string k, .string n, .string m, .map l, .string a', .string k', .string n', .string m', .map l'] w fun e w' => e = .returned (.bool true) ∧ Below w.heap.size w w' := by
  have HL := hl
  have HL' := hl'
  unfold LenIs at hl hl'
  unfold maxLen at ha0 hk0 hn0 hm0 ha0' hk0' hn0' hm0'
  by_cases ha : 65536 < a.size
  · go_enter Try.func4, Try.ntmps4
    go_wp2_with fail
    go_ret
    exact ⟨rfl, Below.refl _ _⟩
  by_cases hk : 65536 < k.size
  · go_enter Try.func4, Try.ntmps4
    go_wp2_with fail
    go_ret
    exact ⟨rfl, Below.refl _ _⟩
  by_cases hn : 65536 < n.size
  · go_enter Try.func4, Try.ntmps4
    go_wp2_with fail
    go_ret
    exact ⟨rfl, Below.refl _ _⟩
  by_cases hm : 65536 < m.size
  · go_enter Try.func4, Try.ntmps4
    go_wp2_with fail
    go_ret
    exact ⟨rfl, Below.refl _ _⟩
  by_cases hc : 4096 < c
  · go_enter Try.func4, Try.ntmps4
    go_wp2_with fail
    go_ret
    exact ⟨rfl, Below.refl _ _⟩
  by_cases ha' : 65536 < a'.size
  · go_enter Try.func4, Try.ntmps4
    go_wp2_with fail
    go_ret
    exact ⟨rfl, Below.refl _ _⟩
  by_cases hk' : 65536 < k'.size
  · go_enter Try.func4, Try.ntmps4
    go_wp2_with fail
    go_ret
    exact ⟨rfl, Below.refl _ _⟩
  by_cases hn' : 65536 < n'.size
  · go_enter Try.func4, Try.ntmps4
    go_wp2_with fail
    go_ret
    exact ⟨rfl, Below.refl _ _⟩
  by_cases hm' : 65536 < m'.size
  · go_enter Try.func4, Try.ntmps4
    go_wp2_with fail
    go_ret
    exact ⟨rfl, Below.refl _ _⟩
  by_cases hc' : 4096 < c'
  · go_enter Try.func4, Try.ntmps4
    go_wp2_with fail
    go_ret
    exact ⟨rfl, Below.refl _ _⟩
  by_cases bsk : k.data.toList.contains 47 = true
  · have sk : Hid (k.data.toList.contains 47 = true) := bsk
    clear bsk HL HL'
    go_enter Try.func4, Try.ntmps4
    go_wp2_with fail
    refine (has_slash_any k true _ (by omega) sk).mono ?_
    rintro e w ⟨rfl, rfl⟩
    go_wp2_with fail
    go_ret
    exact ⟨rfl, Below.refl _ _⟩
  have sk : Hid (k.data.toList.contains 47 = false) := Bool.eq_false_iff.2 bsk
  clear bsk
  by_cases bsn : n.data.toList.contains 47 = true
  · have sn : Hid (n.data.toList.contains 47 = true) := bsn
    clear bsn HL HL'
    go_enter Try.func4, Try.ntmps4
    go_wp2_with fail
    refine (has_slash_any k false _ (by omega) sk).mono ?_
    rintro e w ⟨rfl, rfl⟩
    go_wp2_with fail
    refine (has_slash_any n true _ (by omega) sn).mono ?_
    rintro e w ⟨rfl, rfl⟩
    go_wp2_with fail
    go_ret
    exact ⟨rfl, Below.refl _ _⟩
  have sn : Hid (n.data.toList.contains 47 = false) := Bool.eq_false_iff.2 bsn
  clear bsn
  by_cases bsm : m.data.toList.contains 47 = true
  · have sm : Hid (m.data.toList.contains 47 = true) := bsm
    clear bsm HL HL'
    go_enter Try.func4, Try.ntmps4
    go_wp2_with fail
    refine (has_slash_any k false _ (by omega) sk).mono ?_
    rintro e w ⟨rfl, rfl⟩
    go_wp2_with fail
    refine (has_slash_any n false _ (by omega) sn).mono ?_
    rintro e w ⟨rfl, rfl⟩
    go_wp2_with fail
    refine (has_slash_any m true _ (by omega) sm).mono ?_
    rintro e w ⟨rfl, rfl⟩
    go_wp2_with fail
    go_ret
    exact ⟨rfl, Below.refl _ _⟩
  have sm : Hid (m.data.toList.contains 47 = false) := Bool.eq_false_iff.2 bsm
  clear bsm
  by_cases bsk' : k'.data.toList.contains 47 = true
  · have sk' : Hid (k'.data.toList.contains 47 = true) := bsk'
    clear bsk' HL HL'
    go_enter Try.func4, Try.ntmps4
    go_wp2_with fail
    refine (has_slash_any k false _ (by omega) sk).mono ?_
    rintro e w ⟨rfl, rfl⟩
    go_wp2_with fail
    refine (has_slash_any n false _ (by omega) sn).mono ?_
    rintro e w ⟨rfl, rfl⟩
    go_wp2_with fail
    refine (has_slash_any m false _ (by omega) sm).mono ?_
    rintro e w ⟨rfl, rfl⟩
    go_wp2_with fail
    refine (has_slash_any k' true _ (by omega) sk').mono ?_
    rintro e w ⟨rfl, rfl⟩
    go_wp2_with fail
    go_ret
    exact ⟨rfl, Below.refl _ _⟩
  have sk' : Hid (k'.data.toList.contains 47 = false) := Bool.eq_false_iff.2 bsk'
  clear bsk'
  by_cases bsn' : n'.data.toList.contains 47 = true
  · have sn' : Hid (n'.data.toList.contains 47 = true) := bsn'
    clear bsn' HL HL'
    go_enter Try.func4, Try.ntmps4
    go_wp2_with fail
    refine (has_slash_any k false _ (by omega) sk).mono ?_
    rintro e w ⟨rfl, rfl⟩
    go_wp2_with fail
    refine (has_slash_any n false _ (by omega) sn).mono ?_
    rintro e w ⟨rfl, rfl⟩
    go_wp2_with fail
    refine (has_slash_any m false _ (by omega) sm).mono ?_
    rintro e w ⟨rfl, rfl⟩
    go_wp2_with fail
    refine (has_slash_any k' false _ (by omega) sk').mono ?_
    rintro e w ⟨rfl, rfl⟩
    go_wp2_with fail
    refine (has_slash_any n' true _ (by omega) sn').mono ?_
    rintro e w ⟨rfl, rfl⟩
    go_wp2_with fail
    go_ret
    exact ⟨rfl, Below.refl _ _⟩
  have sn' : Hid (n'.data.toList.contains 47 = false) := Bool.eq_false_iff.2 bsn'
  clear bsn'
  by_cases bsm' : m'.data.toList.contains 47 = true
  · have sm' : Hid (m'.data.toList.contains 47 = true) := bsm'
    clear bsm' HL HL'
    go_enter Try.func4, Try.ntmps4
    go_wp2_with fail
    refine (has_slash_any k false _ (by omega) sk).mono ?_
    rintro e w ⟨rfl, rfl⟩
    go_wp2_with fail
    refine (has_slash_any n false _ (by omega) sn).mono ?_
    rintro e w ⟨rfl, rfl⟩
    go_wp2_with fail
    refine (has_slash_any m false _ (by omega) sm).mono ?_
    rintro e w ⟨rfl, rfl⟩
    go_wp2_with fail
    refine (has_slash_any k' false _ (by omega) sk').mono ?_
    rintro e w ⟨rfl, rfl⟩
    go_wp2_with fail
    refine (has_slash_any n' false _ (by omega) sn').mono ?_
    rintro e w ⟨rfl, rfl⟩
    go_wp2_with fail
    refine (has_slash_any m' true _ (by omega) sm').mono ?_
    rintro e w ⟨rfl, rfl⟩
    go_wp2_with fail
    go_ret
    exact ⟨rfl, Below.refl _ _⟩
  have sm' : Hid (m'.data.toList.contains 47 = false) := Bool.eq_false_iff.2 bsm'
  clear bsm'
  exact apart_in a k n m a' k' n' m' (refS k n m) (refS k' n' m') l l' c c' w (by omega) (by omega) (by omega) (by omega) (by omega) (by omega) (by omega) (by omega) (by omega) (by omega) HL HL' sk sn sm sk' sn' sm' rfl rfl (ref_size k n m (by omega) (by omega) (by omega))
end Go.Proofs.Qxb6621642a.Ref
