import Derived.Test.Qxb6619670aDigWalks
import Derived.Room.AppendFits
import Derived.Laws.IdiomStrings
import Derived.WalkSpells
import Derived.Deep.RegionWith
namespace Go.Proofs.Qxb6619670a.Dig
open Go.RowKit

theorem Try.info5 : (Try.prog.info? 5).map (fun i => (i.zero, i.size, i.bytes)) = some (some (.int .u8 0), 1, 1) := by kernel_rfl

/-- The bytes as cells. -/
theorem conv_row {w : World} {base g n cap : Nat} {l : List UInt8} (hn : l.length = n) (h : w.ownsRow base 5 1 (.slice (some ⟨g, 0, none⟩) n cap) n (l.map fun b => Value.int .u8 (b.toNat : Int))) :
    (convert 22 9 (.slice (some ⟨g, 0, none⟩) n cap)).run Try.prog w = .ok (.string ⟨l.toArray⟩) w := by
  subst hn
  refine run_convert_bytes_back w 22 9 5 ⟨g, 0, none⟩ cap l Try.underlying22 Try.underlying5 Try.underlying9 fun j hj => ?_
  rw [Addr.add_lit, Nat.zero_add, h.cellAt j (by simpa using hj)]
  simp [hj]

theorem conv_one (c : UInt8) (W : World) : (convert 22 9 (.slice (some ⟨W.heap.size, 0, none⟩) 1 1)).run Try.prog (W.alloc (.cells #[.int .u8 (c.toNat : Int)] 5)) = .ok (.string ⟨[c].toArray⟩) (W.alloc (.cells #[.int .u8 (c.toNat : Int)] 5)) := by
  refine run_convert_bytes_back _ 22 9 5 ⟨W.heap.size, 0, none⟩ 1 [c] Try.underlying22 Try.underlying5 Try.underlying9 fun j hj => ?_
  have : j = 0 := by simpa using hj
  subst this
  simp [Addr.add]

theorem cells_mid (x y : ByteArray) (c : UInt8) : Lib.strCells x ++ [Value.int .u8 (c.toNat : Int)] ++ Lib.strCells y = (x.data.toList ++ [c] ++ y.data.toList).map fun b => Value.int .u8 (b.toNat : Int) := by
  simp [Lib.strCells]

/-- The contract, the answer by a name of its own. -/
theorem zzIsDigits_b (s : ByteArray) (b : Bool) (w : World) (hs : s.size ≤ maxLen) (h : Hid (digs s.data.toList = b)) :
    Calls Try.prog 13 #[.string s] w fun e w' => e = .returned (.bool b) ∧ w' = w := by
  have := zzIsDigits_any s w hs
  rw [h.out] at this
  exact this

theorem empty_digs {x : ByteArray} {ex bx : Bool} (hex : x.toList.isEmpty = ex) (hX : digs x.data.toList = bx) : (ex && bx) = false := by
  subst hex hX
  rw [toList_data, digs]
  cases x.data.toList.isEmpty <;> simp
theorem mid_key {x y : ByteArray} {c : UInt8} {bw bl bx bY ex ey : Bool} (hw : digs (x.data.toList ++ c :: y.data.toList) = bw) (hl : isD c = bl) (hX : digs x.data.toList = bx) (hY : digs y.data.toList = bY)
    (hex : x.toList.isEmpty = ex) (hey : y.toList.isEmpty = ey) : bw = ((ex || bx) && bl && (ey || bY)) := by
  have h := digs_mid x.data.toList y.data.toList c
  rw [List.append_assoc, List.singleton_append, digs_one] at h
  subst hw hl hX hY hex hey
  rw [toList_data, toList_data]
  exact h

set_option maxHeartbeats 4000000 in
theorem law_in (x y : ByteArray) (c : UInt8) (w : World) (hx : x.size ≤ 262144) (hy : y.size ≤ 262144) :
    Calls Try.prog 5 #[.string x, .int .u8 (c.toNat : Int), .string y] w fun e w' => e = .returned (.bool true) ∧ Below w.heap.size w w' := by
  obtain ⟨i0, hi, hz0, hz1, hz2⟩ := info_parts Try.info5
  have hok : okLen x.size y.size = true := by simp [okLen]; omega
  have hone := conv_one c
  go_enter Try.func5, Try.ntmps5
  go_wp2_with fail
  refine (zzBytes_any x y _ _ (by unfold maxLen; omega) (by unfold maxLen; omega)).mono ?_
  rintro e w' ⟨rfl, rfl⟩
  rw [hok]
  go_wp2_with (first
    | (at_make; refine wpList_make_own _ rfl _ _ 22 rfl w'.heap.size 5 i0 (.int .u8 0) 1 Try.underlying22 hi hz0 hz1 _ _ _ (x.size + y.size + 1) rfl rfl (by omega) (by rw [hz2]; omega) (by unfold maxLen; omega) (Nat.le_refl _) ?_; intro w1 hown1 hgrow1)
    | (at_builtin; refine Lib.wpList_append_fits_string _ rfl (.tmp 31) (.tmp 32) 22 9 rfl w'.heap.size 5 i0 Try.underlying22 Try.underlying9 hi hz1 _ 0 (x.size + y.size + 1) [] rfl hown1 x rfl (by omega) (by omega) ?_; intro w2 hown2 hgrow2; simp only [Nat.zero_add, List.nil_append] at hown2)
    | (at_builtin; refine wpList_append_fits _ rfl (.tmp 34) (.tmp 36) 22 rfl w'.heap.size 5 i0 1 Try.underlying22 hi hz1 w'.heap.size x.size (x.size + y.size + 1) (Lib.strCells x) rfl (hown2.alloc _) ⟨w2.heap.size, 0, none⟩ 1 1 [.int .u8 (c.toNat : Int)] rfl rfl (cell_one_new _ _ _) (ints_oneCell .u8 [(c.toNat : Int)]) (by omega) ?_; intro w3 hown3 hgrow3)
    | (at_builtin; refine Lib.wpList_append_fits_string _ rfl (.tmp 38) (.tmp 39) 22 9 rfl w'.heap.size 5 i0 Try.underlying22 Try.underlying9 hi hz1 _ (x.size + 1) (x.size + y.size + 1) _ rfl hown3 y rfl (by omega) (by omega) ?_; intro w4 hown4 hgrow4; rw [cells_mid] at hown4; have hconv := conv_row (by simp; omega) hown4))
  have hb4 : Below w'.heap.size w' w4 := by
    refine (((((Below.refl _ _).grown hgrow1 (Nat.le_refl _) (fun k hk => by cases hk)).grown hgrow2 hgrow1.size (fun k hk => by simp [Value.ownBlock] at hk; omega)).alloc (Nat.le_trans hgrow1.size hgrow2.size) _).grown hgrow3 (by have h1 := hgrow1.size; have h2 := hgrow2.size; simp; omega) (fun k hk => by simp at hk; omega)).grown hgrow4 (by have h1 := hgrow1.size; have h2 := hgrow2.size; have h3 := hgrow3.size; simp at h3; omega) (fun k hk => by simp [Value.ownBlock] at hk; omega)
  clear hown1 hown2 hown3 hown4 hgrow1 hgrow2 hgrow3 hgrow4 hconv hi hz0 hz1 hz2
  obtain ⟨bw, hbw⟩ : ∃ b, digs (ByteArray.mk (x.data.toList ++ c :: y.data.toList).toArray).data.toList = b := ⟨_, rfl⟩
  have HW : Hid (digs (ByteArray.mk (x.data.toList ++ c :: y.data.toList).toArray).data.toList = bw) := hbw
  clear hbw
  refine (zzIsDigits_b _ bw _ (by show (x.data.toList ++ c :: y.data.toList).toArray.size ≤ maxLen; simp; unfold maxLen; omega) HW).mono ?_
  rintro e wx ⟨rfl, rfl⟩
  go_wp2_with fail
  have HL : Hid (digs (ByteArray.mk #[c]).data.toList = isD c) := digs_one c
  obtain ⟨bl, hbl⟩ : ∃ b, isD c = b := ⟨_, rfl⟩
  rw [hbl] at HL
  have Hbl : Hid (isD c = bl) := hbl
  clear hbl
  refine (zzIsDigits_b _ bl _ (by show 1 ≤ maxLen; decide) HL).mono ?_
  rintro e wy ⟨rfl, rfl⟩
  obtain ⟨bx, hbx⟩ : ∃ b, digs x.data.toList = b := ⟨_, rfl⟩
  have HX : Hid (digs x.data.toList = bx) := hbx
  clear hbx
  obtain ⟨bY, hbY⟩ : ∃ b, digs y.data.toList = b := ⟨_, rfl⟩
  have HY : Hid (digs y.data.toList = bY) := hbY
  clear hbY
  obtain ⟨ex, hex⟩ : ∃ b, x.toList.isEmpty = b := ⟨_, rfl⟩
  obtain ⟨ey, hey⟩ : ∃ b, y.toList.isEmpty = b := ⟨_, rfl⟩
  have HK : Hid (bw = ((ex || bx) && bl && (ey || bY))) := mid_key HW.out Hbl.out HX.out HY.out hex hey
  have HE : Hid ((ex && bx) = false ∧ (ey && bY) = false) := ⟨empty_digs hex HX.out, empty_digs hey HY.out⟩
  have hsx : x.size ≤ maxLen := by unfold maxLen; omega
  have hsy : y.size ≤ maxLen := by unfold maxLen; omega
  have hb5 : Below w'.heap.size w' (wx.alloc (.cells #[.int .u8 (c.toNat : Int)] 5)) := hb4.alloc hb4.size _
  clear hb4 hok hone HL
  by_cases hc1 : 48 ≤ (c.toNat : Int)
  · by_cases hc2 : (c.toNat : Int) ≤ 57
    · obtain rfl : bl = true := by rw [← Hbl.out]; exact isD_yes ⟨hc1, hc2⟩
      cases ex <;> cases ey <;> cases bx <;> cases bY <;> cases bw <;> first
        | exact absurd HK.out (by decide)
        | exact absurd HE.out (by decide)
        | (go_wp2_with (first
            | (go_at_call_of 13 (Value.string x); refine (zzIsDigits_b x _ _ hsx HX).mono ?_; rintro e wz ⟨rfl, rfl⟩)
            | (go_at_call_of 13 (Value.string y); refine (zzIsDigits_b y _ _ hsy HY).mono ?_; rintro e wz ⟨rfl, rfl⟩))
           go_ret
           exact ⟨rfl, by assumption⟩)
    · obtain rfl : bl = false := by rw [← Hbl.out]; exact isD_no (by omega)
      have hd : decide ((c.toNat : Int) ≤ 57) = false := decide_eq_false hc2
      cases ex <;> cases ey <;> cases bx <;> cases bY <;> cases bw <;> first
        | exact absurd HK.out (by decide)
        | exact absurd HE.out (by decide)
        | (go_wp2_with (first
            | (go_at_call_of 13 (Value.string x); refine (zzIsDigits_b x _ _ hsx HX).mono ?_; rintro e wz ⟨rfl, rfl⟩)
            | (go_at_call_of 13 (Value.string y); refine (zzIsDigits_b y _ _ hsy HY).mono ?_; rintro e wz ⟨rfl, rfl⟩))
           go_ret
           exact ⟨rfl, by assumption⟩)
  · obtain rfl : bl = false := by rw [← Hbl.out]; exact isD_no (by omega)
    have hd : decide (48 ≤ (c.toNat : Int)) = false := decide_eq_false hc1
    cases ex <;> cases ey <;> cases bx <;> cases bY <;> cases bw <;> first
      | exact absurd HK.out (by decide)
      | exact absurd HE.out (by decide)
      | (go_wp2_with (first
          | (go_at_call_of 13 (Value.string x); refine (zzIsDigits_b x _ _ hsx HX).mono ?_; rintro e wz ⟨rfl, rfl⟩)
          | (go_at_call_of 13 (Value.string y); refine (zzIsDigits_b y _ _ hsy HY).mono ?_; rintro e wz ⟨rfl, rfl⟩))
         go_ret
         exact ⟨rfl, by assumption⟩)
end Go.Proofs.Qxb6619670a.Dig
