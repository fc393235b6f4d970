import Derived.Test.Qxb6621703aValSpell
import Derived.Room.AppendFits
import Derived.WalkSpells
namespace Go.Proofs.Qxb6621703a.Val
open Go.RowKit

theorem pow_at (x : Int) (m : Nat) (P : Int) (w : World) (hx : x = (m : Int)) (hm : m ≤ 1000000) (hP : Hid (wrap64 (p10 m) = P)) :
    Calls Try.prog 9 #[.int .i64 x] w fun e w' => e = .returned (.int .i64 P) ∧ w' = w := by
  subst hx
  exact pow_any m P w hm hP

/-- The two pieces of a text, cut at j. -/
theorem cut_bytes (t : ByteArray) (j : Nat) (hj : j ≤ t.size) : (t.extract 0 j).data.toList = t.data.toList.take j ∧ (t.extract j t.size).data.toList = t.data.toList.drop j ∧ (t.extract 0 j).size = j ∧ (t.extract j t.size).size = t.size - j := by
  have e1 : (t.extract 0 j).data.toList = t.data.toList.take j := by
    rw [ByteArray.data_extract, Array.toList_extract]; simp [List.extract]
  have e2 : (t.extract j t.size).data.toList = t.data.toList.drop j := by
    rw [ByteArray.data_extract, Array.toList_extract]
    simp only [List.extract]
    rw [List.take_of_length_le]
    rw [List.length_drop, size_data]
    exact Nat.le_refl _
  refine ⟨e1, e2, ?_, ?_⟩
  · rw [← size_data, e1, List.length_take, size_data]; omega
  · rw [← size_data, e2, List.length_drop, size_data]

theorem conv_row {w : World} {base g n cap : Nat} {l : List UInt8} {u : ByteArray} (hu : u.data.toList = l) (hn : l.length = n) (h : w.ownsRow base 5 1 (.slice (some ⟨g, 0, none⟩) n cap) n (l.map fun b => Value.int .u8 (b.toNat : Int))) :
    (convert 27 9 (.slice (some ⟨g, 0, none⟩) n cap)).run Try.prog w = .ok (.string u) w := by
  obtain rfl : u = ⟨l.toArray⟩ := data_inj (by rw [hu])
  refine conv_at hn fun t ht => ?_
  rw [Nat.zero_add, h.cellAt t (by omega)]
  simp [ht]
theorem cells_mid (x y : ByteArray) (c : UInt8) : Lib.strCells x ++ [Value.int .u8 (c.toNat : Int)] ++ Lib.strCells y = (x.data.toList ++ [c] ++ y.data.toList).map fun b => Value.int .u8 (b.toNat : Int) := by
  simp [Lib.strCells]

theorem all_put {t l r : List UInt8} {j : Nat} {c : UInt8} (ht : t.all isD = true) (hl : l = t.take j) (hr : r = t.drop j) : (l ++ [c] ++ r).all isD = isD c := by
  have h : (l ++ r).all isD = true := by rw [hl, hr, List.take_append_drop]; exact ht
  rw [List.all_append, Bool.and_eq_true] at h
  rw [List.all_append, List.all_append, h.1, h.2]
  simp
theorem ret_true {b : Bool} (h : b = true) : Ending.returned (.bool b) = .returned (.bool true) := by rw [h]
theorem put_pos {t u l r : List UInt8} {j m : Nat} {c : UInt8} {n d P0 P1 : Int} (ht : t.all isD = true) (hv : val t = n) (hl : l = t.take j) (hr : r = t.drop j) (hu : u = l ++ [c] ++ r) (hm : r.length = m) (hm2 : m ≤ 18)
    (ha : u.all isD = true) (hd : dval u = d) (h0 : wrap64 (p10 m) = P0) (h1 : wrap64 (p10 (m + 1)) = P1) :
    (d == wrap64 (wrap64 (wrap64 (n / P0 * P1) + wrap64 (((c.toNat : Int) - 48) * P0)) + n % P0)) = true ∧ 1 ≤ P0 := by
  have e0 : P0 = p10 m := by
    rw [← h0, wr_in]
    · have := p10_pos m; omega
    · have := p10_mono m 18 hm2; rw [p10_18] at this; omega
  have hr2 : r.all isD = true := by
    rw [hr, List.all_eq_true]; intro x hx; exact List.all_eq_true.1 ht x (List.mem_of_mem_drop hx)
  have hc := cut_div l r hr2
  rw [hl, hr, List.take_append_drop, hv, ← hr, ← hl, hm, ← e0] at hc
  refine ⟨?_, by rw [e0]; exact p10_pos m⟩
  rw [beq_iff_eq, ← hd, dval_yes ha, hu, put_law, hm, h0, h1, hc.1, hc.2]
  rfl
theorem put_zero {t u l r : List UInt8} {j m : Nat} {c : UInt8} {n d P0 : Int} (hj : j = 0) (hv : val t = n) (hl : l = t.take j) (hr : r = t.drop j) (hu : u = l ++ [c] ++ r) (hm : r.length = m)
    (ha : u.all isD = true) (hd : dval u = d) (h0 : wrap64 (p10 m) = P0) :
    (d == wrap64 (wrap64 (wrap64 (((c.toNat : Int) - 48) * P0)) + n)) = true := by
  subst hj
  rw [beq_iff_eq, ← hd, dval_yes ha, hu, put_law, hm, h0, hl, List.take_zero, val_nil, Int.zero_mul, wr_zero, Int.zero_add, hr, List.drop_zero, hv]
  rfl

set_option maxHeartbeats 1000000 in
theorem put_in (n : Int) (j : Nat) (c : UInt8) (w : World) (h0 : 0 ≤ n) (h1 : n ≤ 9223372036854775807) :
    Calls Try.prog 4 #[.int .i64 n, .int .i64 (j : Int), .int .u8 (c.toNat : Int)] w fun e w' => e = .returned (.bool true) ∧ Below w.heap.size w w' := by
  obtain ⟨i0, hi, hz0, hz1, hz2⟩ := info_parts Try.info5
  go_enter Try.func4, Try.ntmps4
  go_wp2_with fail
  refine (spell_any n _ h0 h1).mono ?_
  rintro e w1 ⟨t, rfl, hsp, hb1⟩
  have ht := hsp.2.2.2
  by_cases hj : j ≤ t.size
  · obtain ⟨g1, g2, g3, g4⟩ := cut_bytes t j hj
    obtain ⟨pre, hpre⟩ : ∃ x, t.extract 0 j = x := ⟨_, rfl⟩
    obtain ⟨suf, hsuf⟩ : ∃ x, t.extract j t.size = x := ⟨_, rfl⟩
    rw [hpre] at g1 g3
    rw [hsuf] at g2 g4
    have HP : Hid (t.extract 0 j = pre) := hpre
    have HS : Hid (t.extract j t.size = suf) := hsuf
    obtain ⟨u, hu⟩ : ∃ u : ByteArray, u.data.toList = pre.data.toList ++ [c] ++ suf.data.toList := ⟨⟨(pre.data.toList ++ [c] ++ suf.data.toList).toArray⟩, rfl⟩
    have HU : Hid (u.data.toList = pre.data.toList ++ [c] ++ suf.data.toList) := hu
    have HG : Hid (pre.data.toList = t.data.toList.take j ∧ suf.data.toList = t.data.toList.drop j) := ⟨g1, g2⟩
    have g5 : j + 1 + suf.size ≤ t.size + 1 := by omega
    have HL : Hid ((pre.data.toList ++ [c] ++ suf.data.toList).length = j + 1 + suf.size) := by show _ = _; rw [List.length_append, List.length_append, size_data, size_data, g3]; rfl
    have H3 : Hid (pre.size = j) := g3
    have H4 : Hid (suf.size = t.size - j) := g4
    obtain ⟨m, hm⟩ : ∃ m : Nat, (t.size : Int) - (j : Int) = (m : Int) := ⟨t.size - j, by omega⟩
    have hm2 : m ≤ 19 := by omega
    have HT : Hid (t.size = j + m) := by show t.size = j + m; omega
    clear hpre hsuf hu g1 g2 g3 g4
    go_wp2_with (first
      | (at_make; refine wpList_make_own _ rfl _ _ 27 rfl w1.heap.size 5 i0 (.int .u8 0) 1 Try.underlying27 hi hz0 hz1 _ _ _ (t.size + 1) rfl rfl (by omega) (by rw [hz2]; omega) (by unfold maxLen; omega) (Nat.le_refl _) ?_; intro w2 hown2 hgrow2)
      | (at_builtin; rw [HP.out]; refine Lib.wpList_append_fits_string _ rfl (.tmp 32) (.tmp 35) 27 9 rfl w1.heap.size 5 i0 Try.underlying27 Try.underlying9 hi hz1 _ 0 (t.size + 1) [] rfl hown2 pre rfl (by omega) (by have := H3.out; omega) ?_; intro w3 hown3 hgrow3; simp only [Nat.zero_add, List.nil_append, H3.out] at hown3 ⊢)
      | (at_builtin; refine wpList_append_fits _ rfl (.tmp 37) (.tmp 39) 27 rfl w1.heap.size 5 i0 1 Try.underlying27 hi hz1 w1.heap.size j (t.size + 1) (Lib.strCells pre) rfl (hown3.alloc _) ⟨w3.heap.size, 0, none⟩ 1 1 [.int .u8 (c.toNat : Int)] rfl rfl (cell_one_new _ _ _) (ints_oneCell .u8 [(c.toNat : Int)]) (by omega) ?_; intro w4 hown4 hgrow4)
      | (at_builtin; rw [HS.out]; refine Lib.wpList_append_fits_string _ rfl (.tmp 41) (.tmp 44) 27 9 rfl w1.heap.size 5 i0 Try.underlying27 Try.underlying9 hi hz1 _ (j + 1) (t.size + 1) _ rfl hown4 suf rfl (by omega) g5 ?_; intro w5 hown5 hgrow5; rw [cells_mid] at hown5; have hconv := conv_row HU.out HL.out hown5))
    have hb5 : Below w.heap.size w w5 := by
      have z1 := hb1.size
      have z2 := hgrow2.size
      have z3 := hgrow3.size
      have z4 := hgrow4.size
      rw [World.size_alloc] at z4
      refine ((((hb1.grown hgrow2 z1 (fun k hk => by cases hk)).grown hgrow3 (by omega) (fun k hk => by simp [Value.ownBlock] at hk; omega)).alloc (by omega) _).grown hgrow4 (by rw [World.size_alloc]; omega) (fun k hk => by simp at hk; omega)).grown hgrow5 (by omega) (fun k hk => by simp [Value.ownBlock] at hk; omega)
    have hus : u.size ≤ 1000000 := by rw [← size_data, HU.out, HL.out]; omega
    clear hown2 hown3 hown4 hown5 hgrow2 hgrow3 hgrow4 hgrow5 hconv hi hz0 hz1 hz2 hb1
    obtain ⟨d, hd⟩ : ∃ d, dval u.data.toList = d := ⟨_, rfl⟩
    have HD : Hid (dval u.data.toList = d) := hd
    clear hd
    by_cases hc1 : 48 ≤ (c.toNat : Int)
    · by_cases hc2 : (c.toNat : Int) ≤ 57
      · have HA : Hid (u.data.toList.all isD = true) := by show _ = _; rw [HU.out, all_put hsp.1 HG.out.1 HG.out.2]; exact isD_yes ⟨hc1, hc2⟩
        have HM : Hid (suf.data.toList.length = m) := by show _ = _; rw [size_data, H4.out, HT.out]; omega
        refine (zzdigits_any u d true _ hus HD HA).mono ?_
        rintro e w6 ⟨rfl, rfl⟩
        obtain ⟨P0, hP0⟩ : ∃ P, wrap64 (p10 m) = P := ⟨_, rfl⟩
        obtain ⟨P1, hP1⟩ : ∃ P, wrap64 (p10 (m + 1)) = P := ⟨_, rfl⟩
        have HP0 : Hid (wrap64 (p10 m) = P0) := hP0
        have HP1 : Hid (wrap64 (p10 (m + 1)) = P1) := hP1
        clear hP0 hP1
        by_cases hj0 : 0 < j
        · obtain ⟨hfin, hp⟩ := put_pos hsp.1 hsp.2.1 HG.out.1 HG.out.2 HU.out HM.out (by omega) HA.out HD.out HP0.out HP1.out
          have HF : Hid ((d == wrap64 (wrap64 (wrap64 (n / P0 * P1) + wrap64 (((c.toNat : Int) - 48) * P0)) + n % P0)) = true) := hfin
          clear hfin
          go_wp2_with fail
          refine (pow_at _ m P0 _ rfl (by omega) HP0).mono ?_
          rintro e w7 ⟨rfl, rfl⟩
          go_wp2_with fail
          refine (pow_at _ (m + 1) P1 _ (by omega) (by omega) HP1).mono ?_
          rintro e w7 ⟨rfl, rfl⟩
          go_wp2_with fail
          refine (pow_at _ m P0 _ rfl (by omega) HP0).mono ?_
          rintro e w7 ⟨rfl, rfl⟩
          go_wp2_with fail
          go_ret
          exact ⟨ret_true HF.out, hb5⟩
        · have HF : Hid ((d == wrap64 (wrap64 (wrap64 (((c.toNat : Int) - 48) * P0)) + n)) = true) := put_zero (show j = 0 by omega) hsp.2.1 HG.out.1 HG.out.2 HU.out HM.out HA.out HD.out HP0.out
          go_wp2_with fail
          refine (pow_at _ (m + 1) P1 _ (by omega) (by omega) HP1).mono ?_
          rintro e w7 ⟨rfl, rfl⟩
          go_wp2_with fail
          refine (pow_at _ m P0 _ rfl (by omega) HP0).mono ?_
          rintro e w7 ⟨rfl, rfl⟩
          go_wp2_with fail
          go_ret
          exact ⟨ret_true HF.out, hb5⟩
      · have HA : Hid (u.data.toList.all isD = false) := by show _ = _; rw [HU.out, all_put hsp.1 HG.out.1 HG.out.2]; exact isD_no (by omega)
        obtain rfl : d = 0 := by rw [← HD.out]; exact dval_no HA.out
        refine (zzdigits_any u 0 false _ hus HD HA).mono ?_
        rintro e w6 ⟨rfl, rfl⟩
        go_wp2_with fail
        go_ret
        exact ⟨rfl, hb5⟩
    · have HA : Hid (u.data.toList.all isD = false) := by show _ = _; rw [HU.out, all_put hsp.1 HG.out.1 HG.out.2]; exact isD_no (by omega)
      obtain rfl : d = 0 := by rw [← HD.out]; exact dval_no HA.out
      refine (zzdigits_any u 0 false _ hus HD HA).mono ?_
      rintro e w6 ⟨rfl, rfl⟩
      go_wp2_with fail
      go_ret
      exact ⟨rfl, hb5⟩
  · go_wp2_with fail
    go_ret
    exact ⟨rfl, hb1⟩

theorem put_any (n i : Int) (c : UInt8) (w : World) (h1 : n ≤ 9223372036854775807) :
    Calls Try.prog 4 #[.int .i64 n, .int .i64 i, .int .u8 (c.toNat : Int)] w fun e w' => e = .returned (.bool true) ∧ Below w.heap.size w w' := by
  by_cases h0 : n < 0
  · go_enter Try.func4, Try.ntmps4
    go_wp2_with fail
    go_ret
    exact ⟨rfl, Below.refl _ _⟩
  by_cases hi : i < 0
  · have h0' : 0 ≤ n := by omega
    go_enter Try.func4, Try.ntmps4
    go_wp2_with fail
    refine (spell_any n _ h0' h1).mono ?_
    rintro e w1 ⟨t, rfl, hsp, hb1⟩
    go_wp2_with fail
    go_ret
    exact ⟨rfl, hb1⟩
  obtain ⟨j, rfl⟩ := Int.eq_ofNat_of_zero_le (show 0 ≤ i by omega)
  exact put_in n j c w (by omega) h1
end Go.Proofs.Qxb6621703a.Val
