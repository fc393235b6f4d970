import Derived.Test.Qxb6621703aProg
import Derived.WalkKit
import Derived.WalkLawsBesides
import Derived.Laws.BitsAllLaws
import Derived.Test.Qxb6621703aLowPlain
namespace Go.Proofs.Qxb6621703a.Low
open Go.RowKit

theorem ret_int {k : IntKind} {a b : Int} (h : a = b) : Ending.returned (.int k a) = .returned (.int k b) := by rw [h]
theorem ret_bool {a b : Bool} (h : a = b) : Ending.returned (.bool a) = .returned (.bool b) := by rw [h]

theorem low_any (a : Nat) (w : World) (ha : a < 256) :
    Calls Try.prog 13 #[.int .u8 (a : Int)] w fun e w' => e = .returned (.int .u8 (low a : Int)) ∧ w' = w := by
  by_cases h1 : 65 ≤ a
  · by_cases h2 : a ≤ 90
    · have H : Hid (low a = a + 32) := by unfold low; rw [if_pos ⟨h1, h2⟩]; exact rfl
      go_enter Try.func13, Try.ntmps13
      go_wp2
      go_ret
      exact ⟨ret_int (by rw [H.out]; omega), rfl⟩
    · have H : Hid (low a = a) := by unfold low; rw [if_neg (by omega)]; exact rfl
      go_enter Try.func13, Try.ntmps13
      go_wp2
      go_ret
      exact ⟨ret_int (by rw [H.out]), rfl⟩
  · have H : Hid (low a = a) := by unfold low; rw [if_neg (by omega)]; exact rfl
    go_enter Try.func13, Try.ntmps13
    go_wp2
    go_ret
    exact ⟨ret_int (by rw [H.out]), rfl⟩

theorem zzlow_any (a : Nat) (la : Int) (w : World) (ha : a < 256) (hl : Hid ((low a : Int) = la)) :
    Calls Try.prog 10 #[.int .u8 (a : Int)] w fun e w' => e = .returned (.int .u8 la) ∧ w' = w := by
  go_enter Try.func10, Try.ntmps10
  go_wp2_with fail
  refine (low_any a _ ha).mono ?_
  rintro e w ⟨rfl, rfl⟩
  rw [hl.out]
  go_wp2_with fail
  go_ret
  exact ⟨rfl, rfl⟩

theorem letter_any (x : Int) (b : Bool) (w : World) (hb : Hid ((decide (97 ≤ x) && decide (x ≤ 122)) = b)) :
    Calls Try.prog 11 #[.int .u8 x] w fun e w' => e = .returned (.bool b) ∧ w' = w := by
  by_cases h1 : 97 ≤ x
  · by_cases h2 : x ≤ 122
    · go_enter Try.func11, Try.ntmps11
      go_wp2
      go_ret
      exact ⟨ret_bool (by rw [← hb.out]; simp [h1, h2]), rfl⟩
    · have hd : decide (x ≤ 122) = false := decide_eq_false h2
      go_enter Try.func11, Try.ntmps11
      go_wp2
      go_ret
      exact ⟨ret_bool (by rw [← hb.out]; simp [hd]), rfl⟩
  · have hd : decide (97 ≤ x) = false := decide_eq_false h1
    go_enter Try.func11, Try.ntmps11
    go_wp2
    go_ret
    exact ⟨ret_bool (by rw [← hb.out]; simp [hd]), rfl⟩

set_option maxHeartbeats 2000000 in
theorem law_core (a b : Nat) (la lb oa ob xr : Int) (lt : Bool) (w : World) (ha : a < 256) (hb : b < 256) (hla : Hid ((low a : Int) = la)) (hlb : Hid ((low b : Int) = lb))
    (hoa : bits .or .u8 (a : Int) 32 = oa) (hob : bits .or .u8 (b : Int) 32 = ob) (hxr : bits .xor .u8 (a : Int) (b : Int) = xr) (hlt : Hid ((decide (97 ≤ oa) && decide (oa ≤ 122)) = lt))
    (h1 : (la != (a : Int)) = false ∨ ((la != (a : Int)) = true ∧ (la != oa) = false)) (h2 : (lb != (b : Int)) = false ∨ ((lb != (b : Int)) = true ∧ (lb != ob) = false))
    (h3 : (((a : Int) == (b : Int)) = true ∧ (la == lb) = true) ∨ (((a : Int) == (b : Int)) = false ∧ (xr == 32) = false ∧ (la == lb) = false) ∨ (((a : Int) == (b : Int)) = false ∧ (xr == 32) = true ∧ (la == lb) = lt)) :
    Calls Try.prog 5 #[.int .u8 (a : Int), .int .u8 (b : Int)] w fun e w' => e = .returned (.bool true) ∧ Below w.heap.size w w' := by
  rcases h1 with q1 | ⟨q1, q2⟩ <;> rcases h2 with q3 | ⟨q3, q4⟩ <;> rcases h3 with ⟨q5, q6⟩ | ⟨q5, q7, q6⟩ | ⟨q5, q7, q6⟩
  all_goals
    cases lt
    all_goals
      go_enter Try.func5, Try.ntmps5
      go_wp2_with fail
      refine (zzlow_any a la _ ha hla).mono ?_
      rintro e w ⟨rfl, rfl⟩
      go_wp2_with fail
      refine (zzlow_any b lb _ hb hlb).mono ?_
      rintro e w ⟨rfl, rfl⟩
      go_wp2_with (go_at_call 11; refine (letter_any oa _ _ hlt).mono ?_; rintro e w ⟨rfl, rfl⟩)
      go_ret
      exact ⟨rfl, Below.refl _ _⟩
end Go.Proofs.Qxb6621703a.Low
