import Derived.Test.Qxb6621703aValPut
namespace Go.Proofs.Qxb6621703a.Val
open Go.RowKit

/-- The two pieces of digits that spell n. -/
theorem cut_facts {t l r : List UInt8} {j : Nat} {n : Int} (ht : t.all isD = true) (hv : val t = n) (hl : l = t.take j) (hr : r = t.drop j) (h0 : 0 ≤ n) (h1 : n ≤ 9223372036854775807) :
    l.all isD = true ∧ r.all isD = true ∧ wrap64 (wrap64 (dval l * wrap64 (p10 r.length)) + dval r) = n := by
  have h : (l ++ r).all isD = true := by rw [hl, hr, List.take_append_drop]; exact ht
  have hvv : val (l ++ r) = n := by rw [hl, hr, List.take_append_drop]; exact hv
  rw [List.all_append, Bool.and_eq_true] at h
  refine ⟨h.1, h.2, ?_⟩
  rw [dval_yes h.1, dval_yes h.2]
  exact cut_law l r n hvv h0 h1
theorem zeros_spell {z : Nat} {a t : List UInt8} {n : Int} (ha : a = List.replicate z 48) (ht : t.all isD = true) (hv : val t = n) : (a ++ t).all isD = true ∧ val (a ++ t) = n := by
  subst ha
  refine ⟨by rw [List.all_append, all_zeros, ht]; rfl, ?_⟩
  rw [val_append, val_zeros, Int.zero_mul, Int.zero_add, hv]

set_option maxHeartbeats 2000000 in
theorem cut_in (n : Int) (z j : Nat) (w : World) (h0 : 0 ≤ n) (h1 : n ≤ 9223372036854775807) (hz : z ≤ 65536) :
    Calls Try.prog 3 #[.int .i64 n, .int .i64 (z : Int), .int .i64 (j : Int)] w fun e w' => e = .returned (.bool true) ∧ Below w.heap.size w w' := by
  obtain ⟨a, ha⟩ : ∃ a : ByteArray, a.data.toList = List.replicate z 48 := ⟨⟨(List.replicate z 48).toArray⟩, rfl⟩
  have HA : Hid (a.data.toList = List.replicate z 48) := ha
  have haz : a.size ≤ 65536 := by rw [← size_data, ha]; simpa using hz
  clear ha
  go_enter Try.func3, Try.ntmps3
  go_wp2_with fail
  refine (zero_any z _ hz a HA).mono ?_
  rintro e w1 ⟨rfl, hb1⟩
  go_wp2_with fail
  refine (spell_any n _ h0 h1).mono ?_
  rintro e w2 ⟨t, rfl, hsp, hb2⟩
  have hb : Below w.heap.size w w2 := hb1.trans (hb2.mono hb1.size)
  clear hb1 hb2
  have htz := hsp.2.2.2
  by_cases hj : j ≤ a.size + t.size
  · obtain ⟨q, hq⟩ : ∃ q : ByteArray, a ++ t = q := ⟨_, rfl⟩
    have HQ : Hid (a ++ t = q) := hq
    have HQS : Hid (q.data.toList.all isD = true ∧ val q.data.toList = n) := by
      rw [← hq]
      have e1 : (a ++ t).data.toList = a.data.toList ++ t.data.toList := by simp
      rw [e1]
      exact zeros_spell HA.out hsp.1 hsp.2.1
    have hqe : q.size = a.size + t.size := by rw [← hq, ByteArray.size_append]
    have hjq : j ≤ q.size := by omega
    have hqz : q.size ≤ 65555 := by omega
    obtain ⟨g1, g2, g3, g4⟩ := cut_bytes q j hjq
    obtain ⟨pre, hpre⟩ : ∃ x, q.extract 0 j = x := ⟨_, rfl⟩
    obtain ⟨suf, hsuf⟩ : ∃ x, q.extract j q.size = x := ⟨_, rfl⟩
    rw [hpre] at g1 g3
    rw [hsuf] at g2 g4
    obtain ⟨f1, f2, f3⟩ := cut_facts HQS.out.1 HQS.out.2 g1 g2 h0 h1
    rw [size_data, g4] at f3
    have HP : Hid (q.extract 0 j = pre) := hpre
    have HS : Hid (q.extract j q.size = suf) := hsuf
    have F1 : Hid (pre.data.toList.all isD = true) := f1
    have F2 : Hid (suf.data.toList.all isD = true) := f2
    obtain ⟨m, hm⟩ : ∃ m : Nat, (q.size : Int) - (j : Int) = (m : Int) := ⟨q.size - j, by omega⟩
    have hm2 : q.size - j = m := by omega
    rw [hm2] at f3
    obtain ⟨dl, hdl⟩ : ∃ d, dval pre.data.toList = d := ⟨_, rfl⟩
    obtain ⟨dr, hdr⟩ : ∃ d, dval suf.data.toList = d := ⟨_, rfl⟩
    obtain ⟨P, hP⟩ : ∃ P, wrap64 (p10 m) = P := ⟨_, rfl⟩
    rw [hdl, hdr, hP] at f3
    have HDL : Hid (dval pre.data.toList = dl) := hdl
    have HDR : Hid (dval suf.data.toList = dr) := hdr
    have HPW : Hid (wrap64 (p10 m) = P) := hP
    have HF : Hid (wrap64 (wrap64 (dl * P) + dr) = n) := f3
    have HDQ : Hid (dval q.data.toList = n) := by show _ = _; rw [dval_yes HQS.out.1, HQS.out.2, wr_in n h0 h1]
    have hps : pre.size ≤ 1000000 := by omega
    have hss : suf.size ≤ 1000000 := by omega
    have hmm : m ≤ 1000000 := by omega
    clear hq hqe hpre hsuf g1 g2 g3 g4 f1 f2 f3 hdl hdr hP hm2
    go_wp2_with fail
    rw [HQ.out]
    refine (zzdigits_any q n true _ (by omega) HDQ HQS.out.1).mono ?_
    rintro e w3 ⟨rfl, rfl⟩
    go_wp2_with fail
    rw [HP.out]
    refine (zzdigits_any pre dl true _ hps HDL F1).mono ?_
    rintro e w4 ⟨rfl, rfl⟩
    go_wp2_with fail
    rw [HS.out]
    refine (zzdigits_any suf dr true _ hss HDR F2).mono ?_
    rintro e w5 ⟨rfl, rfl⟩
    go_wp2_with fail
    refine (pow_at _ m P _ rfl hmm HPW).mono ?_
    rintro e w6 ⟨rfl, rfl⟩
    go_wp2_with fail
    go_ret
    exact ⟨ret_true (by rw [HF.out]; simp), hb⟩
  · go_wp2_with fail
    go_ret
    exact ⟨rfl, hb⟩

theorem cut_any (n z k : Int) (w : World) (h1 : n ≤ 9223372036854775807) :
    Calls Try.prog 3 #[.int .i64 n, .int .i64 z, .int .i64 k] w fun e w' => e = .returned (.bool true) ∧ Below w.heap.size w w' := by
  by_cases h0 : n < 0
  · go_enter Try.func3, Try.ntmps3
    go_wp2_with fail
    go_ret
    exact ⟨rfl, Below.refl _ _⟩
  by_cases hz : z < 0
  · go_enter Try.func3, Try.ntmps3
    go_wp2_with fail
    go_ret
    exact ⟨rfl, Below.refl _ _⟩
  by_cases hz2 : 65536 < z
  · go_enter Try.func3, Try.ntmps3
    go_wp2_with fail
    go_ret
    exact ⟨rfl, Below.refl _ _⟩
  obtain ⟨y, rfl⟩ := Int.eq_ofNat_of_zero_le (show 0 ≤ z by omega)
  by_cases hk : k < 0
  · have h0' : 0 ≤ n := by omega
    have hy : y ≤ 65536 := by omega
    obtain ⟨a, ha⟩ : ∃ a : ByteArray, a.data.toList = List.replicate y 48 := ⟨⟨(List.replicate y 48).toArray⟩, rfl⟩
    have HA : Hid (a.data.toList = List.replicate y 48) := ha
    have haz : a.size ≤ 65536 := by rw [← size_data, ha]; simpa using hy
    clear ha
    go_enter Try.func3, Try.ntmps3
    go_wp2_with fail
    refine (zero_any y _ hy a HA).mono ?_
    rintro e w1 ⟨rfl, hb1⟩
    go_wp2_with fail
    refine (spell_any n _ h0' h1).mono ?_
    rintro e w2 ⟨t, rfl, hsp, hb2⟩
    have hb : Below w.heap.size w w2 := hb1.trans (hb2.mono hb1.size)
    have htz := hsp.2.2.2
    clear hb1 hb2
    go_wp2_with fail
    go_ret
    exact ⟨rfl, hb⟩
  obtain ⟨j, rfl⟩ := Int.eq_ofNat_of_zero_le (show 0 ≤ k by omega)
  exact cut_in n y j w (by omega) h1 (by omega)
end Go.Proofs.Qxb6621703a.Val
