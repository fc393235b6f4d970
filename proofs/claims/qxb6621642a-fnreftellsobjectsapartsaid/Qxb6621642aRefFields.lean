import Derived.Test.Qxb6621642aRefWalks
namespace Go.Proofs.Qxb6621642a.Ref
open Go.RowKit

theorem ret_int {k : IntKind} {a b : Int} (h : a = b) : Ending.returned (.int k a) = .returned (.int k b) := by rw [h]
theorem size_data (s : ByteArray) : s.data.toList.length = s.size := rfl
theorem byte_get (s : ByteArray) (i : Nat) (h : i < s.size) : s[i] = s.data.toList[i]'(by rw [size_data]; exact h) := rfl
theorem byte_yes {c : UInt8} (h : c = 47) : ((c.toNat : Int) == 47) = true := by subst h; rfl
theorem byte_no {c : UInt8} (h : ¬ c = 47) : ((c.toNat : Int) == 47) = false := by
  rw [beq_eq_false_iff_ne]; intro e; exact h (UInt8.toNat_inj.1 (by show c.toNat = 47; omega))

/-- How many '/' stand among the first i bytes. -/
def cnt (l : List UInt8) (i : Nat) : Int := ((l.take i).count 47 : Nat)
theorem cnt_zero (l : List UInt8) : cnt l 0 = 0 := by simp [cnt]
theorem cnt_bd (l : List UInt8) (i : Nat) : 0 ≤ cnt l i ∧ cnt l i ≤ i := by
  unfold cnt
  have h1 := List.count_le_length (a := (47 : UInt8)) (l := l.take i)
  have h2 := List.length_take_le i l
  omega
theorem cnt_succ (s : ByteArray) (i : Nat) (h : i < s.size) : cnt s.data.toList (i + 1) = cnt s.data.toList i + if s[i] = 47 then 1 else 0 := by
  unfold cnt
  rw [List.take_succ_eq_append_getElem (by rw [size_data]; exact h), List.count_append, byte_get s i h, List.count_singleton]
  generalize s.data.toList[i]'(by rw [size_data]; exact h) = x
  by_cases e : x = 47
  · simp [e]
  · simp [e]

theorem has_slash_any (s : ByteArray) (b : Bool) (w : World) (hs : s.size ≤ 1000000) (hb : Hid (s.data.toList.contains 47 = b)) :
    Calls Try.prog 9 #[.string s] w fun e w' => e = .returned (.bool b) ∧ w' = w := by
  go_enter Try.func9, Try.ntmps9
  go_wp2
  go_loop [3] (fun i => ∃ k : Nat, k ≤ s.size ∧ i = .int .i64 k ∧ Hid (cnt s.data.toList k = 0)) (fun i => s.size - (intOf i).toNat)
  case atStart => exact ⟨0, Nat.zero_le _, rfl, cnt_zero _⟩
  case round =>
    obtain ⟨k, hk, rfl, hc⟩ := hrel
    by_cases hlt : k < s.size
    · by_cases hx : s[k] = 47
      · have hy := byte_yes hx
        have HX : Hid (s[k] = 47) := hx
        clear hx
        go_wp2
        go_ret
        refine ⟨ret_bool ?_, rfl⟩
        rw [← hb.out]
        exact (List.contains_iff_mem.2 (by rw [← HX.out, byte_get s k hlt]; exact List.getElem_mem _)).symm
      · have hy := byte_no hx
        have HX : Hid (¬ s[k] = 47) := hx
        clear hx
        go_wp2
        go_round
        case rel => exact ⟨k + 1, by omega, by go_num, by show cnt _ _ = _; rw [cnt_succ s k hlt, hc.out, if_neg HX.out]; rfl⟩
        case measure => simp [intOf]; omega
    · obtain rfl : k = s.size := by omega
      go_wp2
      go_ret
      refine ⟨ret_bool ?_, rfl⟩
      rw [← hb.out]
      have h0 := hc.out
      unfold cnt at h0
      rw [← size_data, List.take_length] at h0
      have h1 : s.data.toList.count 47 = 0 := by omega
      rw [List.count_eq_zero] at h1
      exact (by simpa using h1)

set_option maxHeartbeats 400000 in
theorem count_any (s : ByteArray) (c : Nat → Int) (w : World) (hs : s.size ≤ 1000000) (hc : Hid (∀ i, c i = cnt s.data.toList i)) (hb : ∀ i, 0 ≤ c i ∧ c i ≤ i) :
    Calls Try.prog 10 #[.string s] w fun e w' => e = .returned (.int .i64 (1 + c s.size)) ∧ w' = w := by
  go_enter Try.func10, Try.ntmps10
  go_wp2
  go_loop [3, 4] (fun n i => ∃ k : Nat, k ≤ s.size ∧ i = .int .i64 k ∧ n = .int .i64 (1 + c k)) (fun _ i => s.size - (intOf i).toNat)
  case atStart => exact ⟨0, Nat.zero_le _, rfl, by rw [hc.out, cnt_zero]; rfl⟩
  case round =>
    obtain ⟨k, hk, rfl, rfl⟩ := hrel
    have hbk := hb k
    by_cases hlt : k < s.size
    · have HS : Hid (c (k + 1) = c k + if s[k] = 47 then 1 else 0) := by show c (k + 1) = _; rw [hc.out, hc.out]; exact cnt_succ s k hlt
      by_cases hx : s[k] = 47
      · have hy := byte_yes hx
        have HX : Hid (s[k] = 47) := hx
        clear hx hb
        go_wp2
        go_round
        case rel => exact ⟨k + 1, by omega, by go_num, by rw [HS.out, if_pos HX.out]; go_num⟩
        case measure => simp [intOf]; omega
      · have hy := byte_no hx
        have HX : Hid (¬ s[k] = 47) := hx
        clear hx hb
        go_wp2
        go_round
        case rel => exact ⟨k + 1, by omega, by go_num, by rw [HS.out, if_neg HX.out]; go_num⟩
        case measure => simp [intOf]; omega
    · obtain rfl : k = s.size := by omega
      clear hb
      go_wp2
      go_ret
      exact ⟨rfl, rfl⟩

/-- Bytes a to b of s are its field number K: c counts the '/' so far. -/
def FieldAt (s : ByteArray) (a b : Nat) (K : Int) (c : Nat → Int) : Prop :=
  a ≤ b ∧ b ≤ s.size ∧ (∀ (i : Nat) (h : i < s.size), a ≤ i → i < b → ¬ s[i] = 47) ∧ (∀ h : b < s.size, s[b] = 47) ∧ (0 < a → ∀ h : a - 1 < s.size, s[a - 1] = 47) ∧ c 0 = 0 ∧
  (∀ (i : Nat) (h : i < s.size), c (i + 1) = c i + if s[i] = 47 then 1 else 0) ∧ (∀ (i : Nat) (h : i < s.size), i < a → s[i] = 47 → ¬ c i = K) ∧ c b = K ∧ ∀ i, 0 ≤ c i ∧ c i ≤ i

set_option maxHeartbeats 1000000 in
theorem field_any (s : ByteArray) (a b : Nat) (K : Int) (c : Nat → Int) (w : World) (hs : s.size ≤ 1000000) (hF : FieldAt s a b K c) :
    Calls Try.prog 11 #[.string s, .int .i64 K] w fun e w' => e = .returned (.string (s.extract a b)) ∧ w' = w := by
  have hab := hF.1
  have hbs := hF.2.1
  go_enter Try.func11, Try.ntmps11
  go_wp2
  go_loop [5, 6, 7] (fun st f i => ∃ k t : Nat, k ≤ b ∧ t ≤ k ∧ (a ≤ k → t = a) ∧ st = .int .i64 t ∧ f = .int .i64 (c k) ∧ i = .int .i64 k) (fun _ _ i => b - (intOf i).toNat)
  case atStart => exact ⟨0, 0, Nat.zero_le _, Nat.le_refl _, fun h => by omega, rfl, by rw [hF.2.2.2.2.2.1], rfl⟩
  case round =>
    obtain ⟨k, t, hk, htk, hta, rfl, rfl, rfl⟩ := hrel
    obtain ⟨_, _, h1, h2, h3, _, h4, h5, h6, h7⟩ := hF
    have hbk := h7 k
    have HTA : Hid (a ≤ k → t = a) := hta
    clear hta
    by_cases hlt : k < b
    · have hlt2 : k < s.size := by omega
      have hne : ((k : Int) == (s.size : Int)) = false := by rw [beq_eq_false_iff_ne]; omega
      have HS : Hid (c (k + 1) = c k + if s[k] = 47 then 1 else 0) := h4 k hlt2
      by_cases hx : s[k] = 47
      · have hy := byte_yes hx
        have hka : k < a := by
          by_cases hka : k < a
          · exact hka
          · exact absurd hx (h1 k hlt2 (by omega) hlt)
        have hcK : (c k == K) = false := by rw [beq_eq_false_iff_ne]; exact h5 k hlt2 hka hx
        have HX : Hid (s[k] = 47) := hx
        clear hx h1 h2 h3 h4 h5 h6 h7
        go_wp2
        go_round
        case rel => exact ⟨k + 1, k + 1, by omega, Nat.le_refl _, fun h => by omega, by go_num, by rw [HS.out, if_pos HX.out], by go_num⟩
        case measure => simp [intOf]; omega
      · have hy := byte_no hx
        have HX : Hid (¬ s[k] = 47) := hx
        have HT2 : Hid (a ≤ k + 1 → t = a) := fun h => by
          by_cases hka : a ≤ k
          · exact HTA.out hka
          · obtain rfl : a = k + 1 := by omega
            exact absurd (h3 (by omega) hlt2) hx
        clear hx h1 h2 h3 h4 h5 h6 h7
        go_wp2
        go_round
        case rel => exact ⟨k + 1, t, by omega, by omega, HT2.out, rfl, by rw [HS.out, if_neg HX.out]; go_num, by go_num⟩
        case measure => simp [intOf]; omega
    · obtain rfl : k = b := by omega
      obtain rfl : t = a := HTA.out hab
      have hcK : (c k == K) = true := by rw [beq_iff_eq]; exact h6
      clear h6 HTA
      by_cases hend : k = s.size
      · have heq : ((k : Int) == (s.size : Int)) = true := by rw [beq_iff_eq]; omega
        have HE : Hid (k = s.size) := hend
        clear hend h1 h2 h3 h4 h5 h7
        go_wp2
        go_ret
        exact ⟨rfl, rfl⟩
      · have hlt2 : k < s.size := by omega
        have hne : ((k : Int) == (s.size : Int)) = false := by rw [beq_eq_false_iff_ne]; omega
        have hy := byte_yes (h2 hlt2)
        clear h1 h2 h3 h4 h5 h7
        go_wp2
        go_ret
        exact ⟨rfl, rfl⟩
end Go.Proofs.Qxb6621642a.Ref
