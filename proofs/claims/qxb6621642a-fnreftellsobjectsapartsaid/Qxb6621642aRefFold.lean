import Derived.Test.Qxb6621642aRefWalks
namespace Go.Proofs.Qxb6621642a.Ref
open Go.RowKit

theorem bytes_append (a b : ByteArray) : (a ++ b).data.toList = a.data.toList ++ b.data.toList := by simp
theorem role_no_slash (s : ByteArray) (h : (47 : UInt8) ∈ s.data.toList) : isRole s = false := by
  unfold isRole
  rw [ByteArray.toList_eq]
  rw [Bool.or_eq_false_iff]
  constructor
  · rw [beq_eq_false_iff_ne]; intro e; rw [e] at h; revert h; decide
  · rw [beq_eq_false_iff_ne]; intro e; rw [e] at h; revert h; decide
theorem role_small (s : ByteArray) (h : isRole s = true) : s.size ≤ 11 := by
  unfold isRole at h
  rw [ByteArray.toList_eq, Bool.or_eq_true, beq_iff_eq, beq_iff_eq] at h
  have e : s.data.toList.length = s.size := rfl
  rcases h with h | h <;> (rw [h] at e; simp at e; omega)
theorem fold_eq (k n m o : ByteArray) (h : isRole k = true) : refS k n m = k ++ ⟨#[47]⟩ ++ m ++ ⟨#[47]⟩ ++ n ∧ refS (k ++ ⟨#[47]⟩ ++ m) n o = k ++ ⟨#[47]⟩ ++ m ++ ⟨#[47]⟩ ++ n := by
  refine ⟨by unfold refS; rw [if_pos h], ?_⟩
  unfold refS
  rw [if_neg]
  rw [role_no_slash]
  · simp
  · rw [bytes_append, bytes_append]; simp
theorem at_left (a b : ByteArray) (i : Nat) (h1 : i < (a ++ b).size) (h2 : i < a.size) : (a ++ b)[i] = a[i] := by
  simp [ByteArray.getElem_append_left h2]
theorem at_right (a b : ByteArray) (i : Nat) (h1 : a.size + i < (a ++ b).size) (h2 : i < b.size) : (a ++ b)[a.size + i] = b[i] := by
  rw [ByteArray.getElem_append_right (by omega)]
  simp

theorem size_sl (x : ByteArray) : (x ++ ⟨#[47]⟩ : ByteArray).size = x.size + 1 := by simp; rfl
theorem fold_len {t fo n : ByteArray} (h : ((t.size : Int) == (fo.size : Int) + (n.size : Int) + 1) = true) : t.size = fo.size + 1 + n.size := by
  have := eq_of_beq h; omega

def LenIs (v : Value) (n : Nat) (w : World) : Prop := ∀ ty, (Builtin.len_ #[22] ty #[v]).run Try.prog w = .ok (.int .i64 (n : Int)) w

theorem len_none (w : World) : LenIs (.map none) 0 w := fun ty => by
  simp [Builtin.len_, run_underlying Try.underlying22, goInt, Result.andThen]
theorem len_some {w : World} {b : Nat} {es : Array MapEntry} {clock : Nat} (hb : w.heap[b]? = some (.map es clock)) : LenIs (.map (some b)) es.size w := fun ty => by
  simp [Builtin.len_, run_underlying Try.underlying22, MapKept.run_getObj_map hb, goInt, Result.andThen]

set_option maxHeartbeats 1000000 in
theorem fold_in (a k n m o t fo : ByteArray) (r : Option Nat) (c : Nat) (w : World) (ha : a.size ≤ 65536) (hk : k.size ≤ 65536) (hn : n.size ≤ 65536) (hm : m.size ≤ 65536) (ho : o.size ≤ 65536) (hc : c ≤ 4096)
    (hl : LenIs (.map r) c w) (hr : Hid (isRole k = true)) (hfo : Hid (k ++ ⟨#[47]⟩ ++ m = fo)) (ht1 : Hid (refS k n m = t)) (ht2 : Hid (refS fo n o = t)) (hfs : fo.size ≤ 131073) (hts : t.size ≤ 1000000)
    (hlen : ((t.size : Int) == (fo.size : Int) + (n.size : Int) + 1) = true) (hpre : Hid (∀ (i : Nat) (h1 : i < t.size) (h2 : i < (fo ++ ⟨#[47]⟩ : ByteArray).size), t[i] = (fo ++ ⟨#[47]⟩ : ByteArray)[i])) (hsuf : Hid (∀ (i : Nat) (h1 : fo.size + 1 + i < t.size) (h2 : i < n.size), t[fo.size + 1 + i] = n[i])) :
    Calls Try.prog 3 #[.string a, .string k, .string n, .string m, .string o, .map r] w fun e w' => e = .returned (.bool true) ∧ Below w.heap.size w w' := by
  unfold LenIs at hl
  have HL : Hid (t.size = fo.size + 1 + n.size) := fold_len hlen
  have HP : Hid ((fo ++ ⟨#[47]⟩ : ByteArray).size ≤ t.size) := by have h1 := size_sl fo; have h2 := HL.out; exact (by omega : (fo ++ ⟨#[47]⟩ : ByteArray).size ≤ t.size)
  go_enter Try.func3, Try.ntmps3
  go_wp2_with fail
  refine (role_any k true _ hr).mono ?_
  rintro e w ⟨rfl, rfl⟩
  go_wp2_with fail
  rw [hfo.out]
  refine (hdr_any a k n m t r _ (by omega) hn hm ht1).mono ?_
  rintro e w1 ⟨rfl, hb1⟩
  clear hl
  go_wp2_with fail
  refine (hdr_any a fo n o t r _ (by omega) hn ho ht2).mono ?_
  rintro e w2 ⟨rfl, hb2⟩
  go_wp2_with fail
  refine (prefix_any _ _ _ hts HP.out hpre).mono ?_
  rintro e w3 ⟨rfl, q3, rfl⟩
  go_wp2_with fail
  refine (suffix_any t n (fo.size + 1) _ hts HL.out hsuf).mono ?_
  rintro e w4 ⟨rfl, q4, rfl⟩
  go_wp2_with fail
  go_ret
  exact ⟨rfl, below_drewN (hb1.trans (hb2.mono hb1.size)) _⟩

set_option maxHeartbeats 2000000 in
theorem fold_any (a k n m o : ByteArray) (r : Option Nat) (c : Nat) (w : World) (hl : LenIs (.map r) c w) (ha0 : a.size ≤ maxLen) (hk0 : k.size ≤ maxLen) (hn0 : n.size ≤ maxLen) (hm0 : m.size ≤ maxLen) (ho0 : o.size ≤ maxLen) :
    Calls Try.prog 3 #[.string a, .string k, .string n, .string m, .string o, .map r] w fun e w' => e = .returned (.bool true) ∧ Below w.heap.size w w' := by
  have hl' := hl
  unfold LenIs at hl
  unfold maxLen at ha0 hk0 hn0 hm0 ho0
  by_cases ha : 65536 < a.size
  · go_enter Try.func3, Try.ntmps3
    go_wp2_with fail
    go_ret
    exact ⟨rfl, Below.refl _ _⟩
  by_cases hk : 65536 < k.size
  · go_enter Try.func3, Try.ntmps3
    go_wp2_with fail
    go_ret
    exact ⟨rfl, Below.refl _ _⟩
  by_cases hn : 65536 < n.size
  · go_enter Try.func3, Try.ntmps3
    go_wp2_with fail
    go_ret
    exact ⟨rfl, Below.refl _ _⟩
  by_cases hm : 65536 < m.size
  · go_enter Try.func3, Try.ntmps3
    go_wp2_with fail
    go_ret
    exact ⟨rfl, Below.refl _ _⟩
  by_cases ho : 65536 < o.size
  · go_enter Try.func3, Try.ntmps3
    go_wp2_with fail
    go_ret
    exact ⟨rfl, Below.refl _ _⟩
  by_cases hc : 4096 < c
  · go_enter Try.func3, Try.ntmps3
    go_wp2_with fail
    go_ret
    exact ⟨rfl, Below.refl _ _⟩
  by_cases hr : isRole k = true
  · have hf := fold_eq k n m o hr
    obtain ⟨fo, hfo⟩ : ∃ fo : ByteArray, k ++ ⟨#[47]⟩ ++ m = fo := ⟨_, rfl⟩
    have z1 : fo.size = k.size + 1 + m.size := by rw [← hfo, ByteArray.size_append, size_sl]
    rw [hfo] at hf
    have z2 := size_sl fo
    obtain ⟨f1, hf1⟩ : ∃ f1 : ByteArray, fo ++ ⟨#[47]⟩ = f1 := ⟨_, rfl⟩
    rw [hf1] at hf z2
    have z3 : (f1 ++ n).size = f1.size + n.size := ByteArray.size_append
    refine fold_in a k n m o (f1 ++ n) fo r c w (by omega) (by omega) (by omega) (by omega) (by omega) (by omega) hl' hr hfo hf.1 hf.2 (by omega) (by omega) (by rw [beq_iff_eq]; omega)
      (by rw [hf1]; exact fun i h1 h2 => at_left _ _ i h1 h2) (by rw [← z2]; exact fun i h1 h2 => at_right f1 n i h1 h2)
  · have HR : Hid (isRole k = false) := Bool.eq_false_iff.2 hr
    clear hr
    go_enter Try.func3, Try.ntmps3
    go_wp2_with fail
    refine (role_any k false _ HR).mono ?_
    rintro e w ⟨rfl, rfl⟩
    go_wp2_with fail
    go_ret
    exact ⟨rfl, Below.refl _ _⟩
end Go.Proofs.Qxb6621642a.Ref
