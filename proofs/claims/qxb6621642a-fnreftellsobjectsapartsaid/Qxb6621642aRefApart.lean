import Derived.Test.Qxb6621642aRefFold
import Derived.Test.Qxb6621642aRefFields
import Derived.Deep.RegionWith
namespace Go.Proofs.Qxb6621642a.Ref
open Go.RowKit

/-! ### lists cut at '/' -/
theorem cut_inj : ∀ (a a' b b' : List UInt8), (47 : UInt8) ∉ a → (47 : UInt8) ∉ a' → a ++ 47 :: b = a' ++ 47 :: b' → a = a' ∧ b = b'
  | [], [], b, b', _, _, h => ⟨rfl, by simpa using h⟩
  | [], y :: a', b, b', _, h2, h => by simp at h; exact absurd h.1 (fun e => h2 (by simp [e]))
  | x :: a, [], b, b', h1, _, h => by simp at h; exact absurd h.1 (fun e => h1 (by simp [e]))
  | x :: a, y :: a', b, b', h1, h2, h => by
    simp only [List.cons_append, List.cons.injEq] at h
    have := cut_inj a a' b b' (fun e => h1 (List.mem_cons_of_mem _ e)) (fun e => h2 (List.mem_cons_of_mem _ e)) h.2
    exact ⟨by rw [h.1, this.1], this.2⟩

theorem data_inj {a b : ByteArray} (h : a.data.toList = b.data.toList) : a = b := ByteArray.ext (Array.ext' h)
theorem sl_bytes : (⟨#[47]⟩ : ByteArray).data.toList = [47] := rfl
theorem ref_role (k n m : ByteArray) (h : isRole k = true) : (refS k n m).data.toList = k.data.toList ++ 47 :: (m.data.toList ++ 47 :: n.data.toList) := by
  unfold refS
  rw [if_pos h, bytes_append, bytes_append, bytes_append, bytes_append, sl_bytes]
  simp
theorem ref_plain (k n m : ByteArray) (h : isRole k = false) : (refS k n m).data.toList = k.data.toList ++ 47 :: n.data.toList := by
  unfold refS
  rw [if_neg (by rw [h]; decide), bytes_append, bytes_append, sl_bytes]
  simp

theorem ref_inj {k n m k' n' m' : ByteArray} (hk : (47 : UInt8) ∉ k.data.toList) (hk' : (47 : UInt8) ∉ k'.data.toList) (hm : (47 : UInt8) ∉ m.data.toList) (hm' : (47 : UInt8) ∉ m'.data.toList)
    (h : refS k n m = refS k' n' m') : k = k' ∧ n = n' ∧ (isRole k = true → m = m') := by
  have hd := congrArg (fun s : ByteArray => s.data.toList) h
  by_cases hr : isRole k = true
  · rw [ref_role k n m hr] at hd
    by_cases hr' : isRole k' = true
    · rw [ref_role k' n' m' hr'] at hd
      have h1 := cut_inj _ _ _ _ hk hk' hd
      have h2 := cut_inj _ _ _ _ hm hm' h1.2
      exact ⟨data_inj h1.1, data_inj h2.2, fun _ => data_inj h2.1⟩
    · rw [ref_plain k' n' m' (Bool.eq_false_iff.2 hr')] at hd
      have h1 := cut_inj _ _ _ _ hk hk' hd
      exact absurd hr (by rw [data_inj h1.1]; exact hr')
  · rw [ref_plain k n m (Bool.eq_false_iff.2 hr)] at hd
    by_cases hr' : isRole k' = true
    · rw [ref_role k' n' m' hr'] at hd
      have h1 := cut_inj _ _ _ _ hk hk' hd
      exact absurd hr' (by rw [← data_inj h1.1]; exact hr)
    · rw [ref_plain k' n' m' (Bool.eq_false_iff.2 hr')] at hd
      have h1 := cut_inj _ _ _ _ hk hk' hd
      exact ⟨data_inj h1.1, data_inj h1.2, fun e => absurd e hr⟩

theorem eqb {a b : ByteArray} (h : a = b) : (a.toList == b.toList) = true := by subst h; simp
theorem neb {a b : ByteArray} (h : ¬ a = b) : (a.toList == b.toList) = false := by
  rw [beq_eq_false_iff_ne, ByteArray.toList_eq, ByteArray.toList_eq]; exact fun e => h (data_inj e)

/-- The ways in which two refs stand to each other. -/
theorem ways_role {k n m k' n' m' : ByteArray} (hk : (47 : UInt8) ∉ k.data.toList) (hk' : (47 : UInt8) ∉ k'.data.toList) (hm : (47 : UInt8) ∉ m.data.toList) (hm' : (47 : UInt8) ∉ m'.data.toList) (hr : isRole k = true) :
    ((k.toList == k'.toList) = false ∧ ((refS k n m).toList == (refS k' n' m').toList) = false) ∨ ((k.toList == k'.toList) = true ∧ (n.toList == n'.toList) = false ∧ ((refS k n m).toList == (refS k' n' m').toList) = false) ∨
    ((k.toList == k'.toList) = true ∧ (n.toList == n'.toList) = true ∧ (m.toList == m'.toList) = false ∧ ((refS k n m).toList == (refS k' n' m').toList) = false) ∨
    ((k.toList == k'.toList) = true ∧ (n.toList == n'.toList) = true ∧ (m.toList == m'.toList) = true ∧ ((refS k n m).toList == (refS k' n' m').toList) = true) := by
  by_cases h1 : k = k'
  · by_cases h2 : n = n'
    · by_cases h3 : m = m'
      · exact .inr (.inr (.inr ⟨eqb h1, eqb h2, eqb h3, eqb (by rw [h1, h2, h3])⟩))
      · exact .inr (.inr (.inl ⟨eqb h1, eqb h2, neb h3, neb (fun e => h3 ((ref_inj hk hk' hm hm' e).2.2 hr))⟩))
    · exact .inr (.inl ⟨eqb h1, neb h2, neb (fun e => h2 (ref_inj hk hk' hm hm' e).2.1)⟩)
  · exact .inl ⟨neb h1, neb (fun e => h1 (ref_inj hk hk' hm hm' e).1)⟩
theorem ways_plain {k n m k' n' m' : ByteArray} (hk : (47 : UInt8) ∉ k.data.toList) (hk' : (47 : UInt8) ∉ k'.data.toList) (hm : (47 : UInt8) ∉ m.data.toList) (hm' : (47 : UInt8) ∉ m'.data.toList) (hr : isRole k = false) :
    ((k.toList == k'.toList) = false ∧ ((refS k n m).toList == (refS k' n' m').toList) = false) ∨ ((k.toList == k'.toList) = true ∧ (n.toList == n'.toList) = false ∧ ((refS k n m).toList == (refS k' n' m').toList) = false) ∨
    ((k.toList == k'.toList) = true ∧ (n.toList == n'.toList) = true ∧ ((refS k n m).toList == (refS k' n' m').toList) = true) := by
  by_cases h1 : k = k'
  · by_cases h2 : n = n'
    · exact .inr (.inr ⟨eqb h1, eqb h2, eqb (by unfold refS; rw [← h1, ← h2, hr]; rfl)⟩)
    · exact .inr (.inl ⟨eqb h1, neb h2, neb (fun e => h2 (ref_inj hk hk' hm hm' e).2.1)⟩)
  · exact .inl ⟨neb h1, neb (fun e => h1 (ref_inj hk hk' hm hm' e).1)⟩

/-! ### the fields of a text that is cut at '/' -/
theorem field_list {s : ByteArray} {P F Q : List UInt8} (hs : s.data.toList = P ++ F ++ Q) (hP : P = [] ∨ ∃ P', P = P' ++ [47]) (hF : (47 : UInt8) ∉ F) (hQ : Q = [] ∨ ∃ Q', Q = 47 :: Q') :
    FieldAt s P.length (P.length + F.length) (P.count 47 : Nat) (cnt s.data.toList) := by
  have hlen : s.size = P.length + F.length + Q.length := by rw [← size_data, hs]; simp; omega
  refine ⟨by omega, by omega, fun i h h1 h2 => ?_, fun h => ?_, fun h0 h => ?_, cnt_zero _, fun i h => cnt_succ s i h, fun i h h1 hx => ?_, ?_, fun i => cnt_bd _ i⟩
  · rw [byte_get s i h]
    have e : s.data.toList[i]'(by rw [size_data]; exact h) = F[i - P.length]'(by omega) := by
      simp only [hs]
      rw [List.getElem_append_left (by simp; omega), List.getElem_append_right h1]
    rw [e]
    exact fun e2 => hF (e2 ▸ List.getElem_mem _)
  · rw [byte_get s _ h]
    simp only [hs]
    rcases hQ with rfl | ⟨Q', rfl⟩
    · simp at hlen; omega
    · rw [List.getElem_append_right (by simp)]
      simp
  · rw [byte_get s _ h]
    simp only [hs]
    rcases hP with rfl | ⟨P', rfl⟩
    · simp at h0
    · rw [List.getElem_append_left (by simp), List.getElem_append_left (by simp)]
      simp
  · have h2 := cnt_succ s i h
    rw [if_pos hx] at h2
    intro e
    rw [e] at h2
    unfold cnt at h2
    rw [hs, List.append_assoc, List.take_append_of_le_length (by omega)] at h2
    have h3 := (List.take_sublist (i + 1) P).count_le 47
    omega
  · unfold cnt
    rw [hs, List.take_left' (by simp), List.count_append, List.count_eq_zero.2 hF]
    rfl

theorem field_bytes {s t : ByteArray} {P F Q : List UInt8} (hs : s.data.toList = P ++ F ++ Q) (ht : t.data.toList = F) : s.extract P.length (P.length + F.length) = t := by
  apply data_inj
  rw [ht, ByteArray.data_extract, Array.toList_extract, hs]
  simp [List.extract]

/-- THE CONTRACT of zzField, in these words. -/
theorem field_t (s t : ByteArray) (P F Q : List UInt8) (K : Int) (w : World) (hsz : s.size ≤ 1000000) (hs : s.data.toList = P ++ F ++ Q) (hP : P = [] ∨ ∃ P', P = P' ++ [47]) (hF : (47 : UInt8) ∉ F) (hQ : Q = [] ∨ ∃ Q', Q = 47 :: Q') (hK : ((P.count 47 : Nat) : Int) = K) (ht : t.data.toList = F) :
    Calls Try.prog 11 #[.string s, .int .i64 K] w fun e w' => e = .returned (.string t) ∧ w' = w := by
  have := field_any s _ _ _ _ w hsz (field_list hs hP hF hQ)
  rw [field_bytes hs ht, hK] at this
  exact this
theorem count_t (s : ByteArray) (n : Int) (w : World) (hsz : s.size ≤ 1000000) (hn : 1 + ((s.data.toList.count 47 : Nat) : Int) = n) :
    Calls Try.prog 10 #[.string s] w fun e w' => e = .returned (.int .i64 n) ∧ w' = w := by
  have := count_any s (cnt s.data.toList) w hsz (fun _ => rfl) (fun i => cnt_bd _ i)
  have e : 1 + cnt s.data.toList s.size = n := by rw [← hn]; unfold cnt; rw [← size_data, List.take_length]
  rw [e] at this
  exact this
end Go.Proofs.Qxb6621642a.Ref
