import Derived.Test.Qxb6621642aProg
import Derived.WalkKit
import Derived.WalkLawsBesides
import Derived.Deep.QuietTactic
import Derived.BigQuiet
namespace Go.Proofs.Qxb6621642a.Ref
open Go.RowKit

/-- Is the kind one of the two that lie in a namespace? -/
def isRole (s : ByteArray) : Bool := s.toList == [82, 111, 108, 101] || s.toList == [82, 111, 108, 101, 66, 105, 110, 100, 105, 110, 103]
def slash : ByteArray := ⟨#[47]⟩
/-- What 'ref' answers: kind k, name n, namespace m. -/
def refS (k n m : ByteArray) : ByteArray := if isRole k = true then k ++ ⟨#[47]⟩ ++ m ++ ⟨#[47]⟩ ++ n else k ++ ⟨#[47]⟩ ++ n

theorem ret_bool {a b : Bool} (h : a = b) : Ending.returned (.bool a) = .returned (.bool b) := by rw [h]
theorem ret_str {a b : ByteArray} (h : a = b) : Ending.returned (.string a) = .returned (.string b) := by rw [h]

theorem role_any (s : ByteArray) (b : Bool) (w : World) (hb : Hid (isRole s = b)) :
    Calls Try.prog 5 #[.string s] w fun e w' => e = .returned (.bool b) ∧ w' = w := by
  obtain rfl := hb.out
  by_cases h : s.toList = [82, 111, 108, 101]
  · have H : Hid (isRole s = true) := by unfold isRole; rw [h]; rfl
    go_enter Try.func5, Try.ntmps5
    go_wp2
    go_ret
    exact ⟨ret_bool H.out.symm, rfl⟩
  · go_enter Try.func5, Try.ntmps5
    go_wp2
    go_ret
    exact ⟨ret_bool rfl, rfl⟩

theorem names_any (b : Nat) (k : ByteArray) (w : World) (h1 : w.cell? ⟨b, 1, none⟩ = some (.string k)) :
    Calls Try.prog 13 #[.pointer (some ⟨b, 0, none⟩)] w fun e w' => e = .returned (.bool (isRole k)) ∧ w' = w := by
  by_cases h : k.toList = [82, 111, 108, 101]
  · have H : Hid (isRole k = true) := by unfold isRole; rw [h]; rfl
    go_enter Try.func13, Try.ntmps13
    go_wp2
    go_ret
    exact ⟨ret_bool H.out.symm, rfl⟩
  · go_enter Try.func13, Try.ntmps13
    go_wp2
    go_ret
    exact ⟨ret_bool rfl, rfl⟩

set_option maxHeartbeats 400000 in
theorem ref_any (b : Nat) (k n m : ByteArray) (w : World) (hk : k.size ≤ 200000) (hn : n.size ≤ 65536) (hm : m.size ≤ 65536) (h1 : w.cell? ⟨b, 1, none⟩ = some (.string k)) (h2 : w.cell? ⟨b, 2, none⟩ = some (.string n)) (h3 : w.cell? ⟨b, 3, none⟩ = some (.string m)) :
    Calls Try.prog 12 #[.pointer (some ⟨b, 0, none⟩)] w fun e w' => e = .returned (.string (refS k n m)) ∧ ∃ q, w' = w.drewN q := by
  by_cases hr : isRole k = true
  · have HR : Hid (isRole k = true) := hr
    have HE : Hid (refS k n m = k ++ ⟨#[47]⟩ ++ m ++ ⟨#[47]⟩ ++ n) := by unfold refS; rw [if_pos hr]; exact rfl
    clear hr
    go_enter Try.func12, Try.ntmps12
    go_wp2_with fail
    refine (names_any b k _ h1).mono ?_
    rintro e w' ⟨rfl, rfl⟩
    rw [HR.out]
    go_wp2_with fail
    go_quiet (fail)
    go_wp2
    go_ret
    exact ⟨ret_str HE.out.symm, _, rfl⟩
  · have HR : Hid (isRole k = false) := Bool.eq_false_iff.2 hr
    have HE : Hid (refS k n m = k ++ ⟨#[47]⟩ ++ n) := by unfold refS; rw [if_neg hr]; exact rfl
    clear hr
    go_enter Try.func12, Try.ntmps12
    go_wp2_with fail
    refine (names_any b k _ h1).mono ?_
    rintro e w' ⟨rfl, rfl⟩
    rw [HR.out]
    go_wp2_with fail
    go_quiet (fail)
    go_wp2
    go_ret
    exact ⟨ret_str HE.out.symm, _, rfl⟩

set_option maxHeartbeats 400000 in
theorem hdr_any (a k n m t : ByteArray) (r : Option Nat) (w : World) (hk : k.size ≤ 200000) (hn : n.size ≤ 65536) (hm : m.size ≤ 65536) (ht : Hid (refS k n m = t)) :
    Calls Try.prog 6 #[.string a, .string k, .string n, .string m, .map r] w fun e w' => e = .returned (.string t) ∧ Below w.heap.size w w' := by
  obtain rfl := ht.out
  go_enter Try.func6, Try.ntmps6
  go_wp2_with fail
  refine (ref_any _ k n m _ hk hn hm (by simp) (by simp) (by simp)).mono ?_
  rintro e w' ⟨rfl, q, rfl⟩
  go_wp2_with fail
  go_ret
  exact ⟨rfl, below_drewN ((Below.refl _ _).alloc (Nat.le_refl _) _) _⟩

/-! ### strings byte by byte -/
set_option maxHeartbeats 400000 in
theorem prefix_any (s p : ByteArray) (w : World) (hs : s.size ≤ 1000000) (hp : p.size ≤ s.size) (h : Hid (∀ (i : Nat) (h1 : i < s.size) (h2 : i < p.size), s[i] = p[i])) :
    Calls Try.prog 7 #[.string s, .string p] w fun e w' => e = .returned (.bool true) ∧ ∃ q, w' = w.drewN q := by
  go_enter Try.func7, Try.ntmps7
  go_wp2
  go_loopw [5] (fun i wr => ∃ k : Nat, k ≤ p.size ∧ i = .int .i64 k ∧ ∃ q, wr = w.drewN q) (fun i _ => p.size - (intOf i).toNat)
  case atStart => exact ⟨0, Nat.zero_le _, rfl, 0, rfl⟩
  case round =>
    obtain ⟨k, hk, rfl, q, rfl⟩ := hrel
    by_cases hlt : k < p.size
    · have hi : (k : Int) < (p.size : Int) := by omega
      have hi2 : (k : Int) < (s.size : Int) := by omega
      have hlt2 : k < s.size := by omega
      have hx : ((s[k].toNat : Int) != (p[k].toNat : Int)) = false := by rw [h.out k hlt2 hlt]; simp
      go_wp2
      go_quiet (fail)
      go_wp2
      go_roundw
      case rel => exact ⟨k + 1, by omega, by go_num, _, rfl⟩
      case measure => simp [intOf]; omega
    · go_wp2
      go_ret
      exact ⟨rfl, q, rfl⟩

set_option maxHeartbeats 400000 in
theorem suffix_any (s p : ByteArray) (o : Nat) (w : World) (hs : s.size ≤ 1000000) (hp : s.size = o + p.size) (h : Hid (∀ (i : Nat) (h1 : o + i < s.size) (h2 : i < p.size), s[o + i] = p[i])) :
    Calls Try.prog 8 #[.string s, .string p] w fun e w' => e = .returned (.bool true) ∧ ∃ q, w' = w.drewN q := by
  have HP : Hid (s.size = o + p.size) := hp
  have hps : p.size ≤ s.size := by omega
  have hso : (s.size : Int) - (p.size : Int) = (o : Int) := by omega
  have hob : o ≤ s.size := by omega
  clear hp
  go_enter Try.func8, Try.ntmps8
  go_wp2
  go_loopw [6] (fun i wr => ∃ k : Nat, k ≤ p.size ∧ i = .int .i64 k ∧ ∃ q, wr = w.drewN q) (fun i _ => p.size - (intOf i).toNat)
  case atStart => exact ⟨0, Nat.zero_le _, rfl, 0, rfl⟩
  case round =>
    obtain ⟨k, hk, rfl, q, rfl⟩ := hrel
    by_cases hlt : k < p.size
    · have hi : (k : Int) < (p.size : Int) := by omega
      have hlt2 : o + k < s.size := by have := HP.out; omega
      have hi2 : (o : Int) + (k : Int) < (s.size : Int) := by omega
      have e1 : IntKind.i64.wrap ((o : Int) + (k : Int)) = (o : Int) + (k : Int) := by rw [IntKind.wrap_i64]; omega
      have e2 : ((o : Int) + (k : Int)).toNat = o + k := by omega
      have hi0 : (0 : Int) ≤ (o : Int) + (k : Int) := by omega
      have hx : ((s[o + k].toNat : Int) != (p[k].toNat : Int)) = false := by rw [h.out k hlt2 hlt]; simp
      go_wp2
      go_quiet (fail)
      go_wp2
      go_roundw
      case rel => exact ⟨k + 1, by omega, by go_num, _, rfl⟩
      case measure => simp [intOf]; omega
    · go_wp2
      go_ret
      exact ⟨rfl, q, rfl⟩
end Go.Proofs.Qxb6621642a.Ref
