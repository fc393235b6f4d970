import Derived.Test.Qxb6621703aValWalks
namespace Go.Proofs.Qxb6621703a.Val
open Go.RowKit

theorem Try.info5 : (Try.prog.info? 5).map (fun i => (i.zero, i.size, i.bytes)) = some (some (.int .u8 0), 1, 1) := by kernel_rfl
theorem ret_str {a b : ByteArray} (h : a = b) : Ending.returned (.string a) = .returned (.string b) := by rw [h]
theorem data_inj {a b : ByteArray} (h : a.data.toList = b.data.toList) : a = b := ByteArray.ext (Array.ext' h)

/-- Block B: k bytes, the first j of them '0'. -/
def Zeros (B k j : Nat) (wr : World) : Prop :=
  (∀ t, t < k → ∃ v : Int, wr.cell? ⟨B, t, none⟩ = some (.int .u8 v) ∧ (t < j → v = 48)) ∧ ∀ t, wr.frozen? ⟨B, t, none⟩ = false
theorem zeros_start {B k : Nat} {w : World} {base : Nat} (h : w.ownsRow base 5 1 (.slice (some ⟨B, 0, none⟩) k k) k (madeCells (Value.cells (.int .u8 0)) (k * 1)).toList) : Zeros B k 0 w := by
  refine ⟨fun t ht => ⟨0, ?_, fun h0 => by omega⟩, fun t => h.frozenAt t⟩
  rw [h.cellAt t (by omega)]
  show (madeCells #[Value.int .u8 0] (k * 1)).toList[t]? = _
  rw [toList_madeCells_one]
  simp [ht]
theorem own_lt {B k n : Nat} {w : World} {base e : Nat} {xs : List Value} (h : w.ownsRow base e 1 (.slice (some ⟨B, 0, none⟩) k n) k xs) : B < w.heap.size := (h.lt B rfl).2
theorem zeros_step {B k j : Nat} {w : World} (h : Zeros B k j w) : Zeros B k (j + 1) (w.setCell ⟨B, j, none⟩ (.int .u8 48)) := by
  refine ⟨fun t ht => ?_, fun t => by rw [World.frozen?_setCell]; exact h.2 t⟩
  obtain ⟨u, hu, hF⟩ := h.1 t ht
  by_cases htj : t = j
  · subst htj
    exact ⟨48, World.cell?_setCell_same _ _ _ hu, fun _ => rfl⟩
  · exact ⟨u, by rw [World.cell?_setCell_other (h := fun e => htj (Addr.mk.inj e).2.1.symm)]; exact hu, fun h0 => hF (by omega)⟩
theorem conv_at {w : World} {B o n c : Nat} {l : List UInt8} (hn : l.length = n) (h : ∀ t (ht : t < l.length), w.cell? ⟨B, o + t, none⟩ = some (.int .u8 (l[t].toNat : Int))) :
    (convert 27 9 (.slice (some ⟨B, o, none⟩) n c)).run Try.prog w = .ok (.string ⟨l.toArray⟩) w := by
  subst hn
  refine run_convert_bytes_back w 27 9 5 ⟨B, o, none⟩ c l Try.underlying27 Try.underlying5 Try.underlying9 fun j hj => ?_
  rw [Addr.add_lit]
  exact h j hj
theorem zeros_conv {B k : Nat} {w : World} {l : List UInt8} (hl : l = List.replicate k 48) (h : Zeros B k k w) : (convert 27 9 (.slice (some ⟨B, 0, none⟩) k k)).run Try.prog w = .ok (.string ⟨l.toArray⟩) w := by
  refine conv_at (by rw [hl]; simp) fun t ht => ?_
  have htk : t < k := by rw [hl] at ht; simpa using ht
  obtain ⟨v, hv, he⟩ := h.1 t htk
  rw [Nat.zero_add, hv, he htk]
  have : l[t] = 48 := by simp [hl]
  rw [this]; rfl

set_option maxHeartbeats 400000 in
theorem zero_any (z : Nat) (w : World) (hz : z ≤ 65536) (t : ByteArray) (ht : Hid (t.data.toList = List.replicate z 48)) :
    Calls Try.prog 6 #[.int .i64 (z : Int)] w fun e w' => e = .returned (.string t) ∧ Below w.heap.size w w' := by
  obtain ⟨i0, hi, hz0, hz1, hz2⟩ := info_parts Try.info5
  go_enter Try.func6, Try.ntmps6
  go_wp2_with (first | (at_make; refine wpList_make_full _ rfl _ _ 27 rfl w.heap.size 5 i0 (.int .u8 0) 1 Try.underlying27 hi hz0 hz1 _ _ _ _ z rfl rfl rfl rfl (by rw [hz2]; omega) (by unfold maxLen; omega) (Nat.le_refl _) ?_; intro w1 hown1 hgrow1))
  go_loopw [4] (fun i wr => ∃ j : Nat, j ≤ z ∧ i = .int .i64 j ∧ Zeros w.heap.size z j wr ∧ Below w.heap.size w wr ∧ w.heap.size < wr.heap.size) (fun i _ => z - (intOf i).toNat)
  case atStart => exact ⟨0, Nat.zero_le _, rfl, zeros_start hown1, (Below.refl _ _).grown hgrow1 (Nat.le_refl _) (fun k hk => by cases hk), own_lt hown1⟩
  case round =>
    obtain ⟨j, hj, rfl, hfil, hbel, hsz⟩ := hrel
    by_cases hlt : j < z
    · obtain ⟨v, hcv, _⟩ := hfil.1 j hlt
      have hfr := hfil.2 j
      have hji : (j : Int) < (z : Int) := by omega
      go_wp2
      go_roundw
      case rel => exact ⟨j + 1, by omega, by go_num, zeros_step hfil, hbel.setCell (Nat.le_refl _) _, by simpa [World.setCell] using hsz⟩
      case measure => simp [intOf]; omega
    · obtain rfl : j = z := by omega
      have hconv := zeros_conv ht.out hfil
      go_wp2
      go_ret
      exact ⟨ret_str rfl, hbel⟩

/-- Block B: 24 bytes; from i on they are the digits L. -/
def Spelt (B i : Nat) (L : List UInt8) (wr : World) : Prop :=
  L.length + i = 24 ∧ (∀ t, t < 24 → ∃ v : Int, wr.cell? ⟨B, t, none⟩ = some (.int .u8 v)) ∧ (∀ t (ht : t < L.length), wr.cell? ⟨B, i + t, none⟩ = some (.int .u8 (L[t].toNat : Int))) ∧ ∀ t, wr.frozen? ⟨B, t, none⟩ = false

/-- t spells N: digits all, 1 to 19 of them. -/
def Spells (t : ByteArray) (N : Int) : Prop := t.data.toList.all isD = true ∧ val t.data.toList = N ∧ 1 ≤ t.size ∧ t.size ≤ 19

/-- The next digit. -/
theorem digit_of (q : Int) : ∃ c : UInt8, (c.toNat : Int) = 48 + q % 10 ∧ isD c = true ∧ dv c = q % 10 := by
  have h1 := Int.emod_nonneg q (show (10 : Int) ≠ 0 by omega)
  have h2 := Int.emod_lt_of_pos q (show (0 : Int) < 10 by omega)
  have e : ((UInt8.ofNat (48 + q % 10).toNat).toNat : Int) = 48 + q % 10 := by
    rw [UInt8.toNat_ofNat', Nat.mod_eq_of_lt (by omega)]; omega
  refine ⟨UInt8.ofNat (48 + q % 10).toNat, e, isD_yes (by omega), ?_⟩
  unfold dv; omega
theorem spell_num {N q : Int} {L : List UInt8} {c : UInt8} (hN : N ≤ 9223372036854775807) (hq : 0 < q) (hL : L.length ≤ 19 ∧ L.all isD = true ∧ N = q * p10 L.length + val L) (hc : isD c = true) (hd : dv c = q % 10) :
    (c :: L).length ≤ 19 ∧ (c :: L).all isD = true ∧ N = q / 10 * p10 (c :: L).length + val (c :: L) := by
  obtain ⟨h1, h2, h3⟩ := hL
  have hb := val_bd L h2
  have hp := p10_pos L.length
  refine ⟨?_, by rw [List.all_cons, hc, h2]; rfl, ?_⟩
  · rw [List.length_cons]
    by_cases h : L.length = 19
    · have h4 : 1 * p10 L.length ≤ q * p10 L.length := Int.mul_le_mul_of_nonneg_right (by omega) (by omega)
      rw [h, p10_19] at h4
      rw [h, p10_19] at h3
      omega
    · omega
  · have e : val (c :: L) = dv c * p10 L.length + val L := by
      have := val_append [c] L
      rw [val_one] at this
      exact this
    rw [e, hd, List.length_cons, p10_succ, Int.mul_comm (p10 L.length) 10, ← Int.mul_assoc, ← Int.add_assoc, ← Int.add_mul]
    have : q / 10 * 10 + q % 10 = q := by omega
    rw [this]
    exact h3
theorem spelt_step {B k : Nat} {L : List UInt8} {w : World} {c : UInt8} {x : Int} (h : Spelt B (k + 1) L w) (hk : k < 24) (hx : (c.toNat : Int) = x) : Spelt B k (c :: L) (w.setCell ⟨B, k, none⟩ (.int .u8 x)) := by
  obtain ⟨h1, h2, h3, h4⟩ := h
  obtain ⟨u, hu⟩ := h2 k hk
  refine ⟨by rw [List.length_cons]; omega, fun t ht => ?_, fun t ht => ?_, fun t => by rw [World.frozen?_setCell]; exact h4 t⟩
  · by_cases htk : t = k
    · subst htk
      exact ⟨x, World.cell?_setCell_same _ _ _ hu⟩
    · obtain ⟨v, hv⟩ := h2 t ht
      exact ⟨v, by rw [World.cell?_setCell_other (h := fun e => htk (Addr.mk.inj e).2.1.symm)]; exact hv⟩
  · cases t with
    | zero => rw [Nat.add_zero, World.cell?_setCell_same _ _ _ hu, ← hx]; rfl
    | succ t =>
      have ht' : t < L.length := by simpa using ht
      rw [World.cell?_setCell_other (h := fun e => by have := (Addr.mk.inj e).2.1; omega)]
      have := h3 t ht'
      rw [show k + 1 + t = k + (t + 1) from by omega] at this
      rw [this]; rfl
theorem Try.len32 : Try.prog.arrayLen 32 = 24 := by kernel_rfl
theorem Try.elem32 : Try.prog.elem 32 = 5 := by kernel_rfl
theorem slice_tail (B k : Nat) (hk : k ≤ 23) (w : World) : (Instr.sliceAt 32 (.pointer (some ⟨B, 0, none⟩)) (some (.int .i64 (k : Int))) none none).run Try.prog w = .ok (.slice (some ⟨B, k, none⟩) (24 - k) (24 - k)) w := by
  obtain ⟨i0, hi, hz0, hz1, hz2⟩ := info_parts Try.info5
  rw [run_sliceAt_array_l (P := Try.prog) w 32 ⟨B, 0, none⟩ (by rw [Try.len32, Try.elem32]; exact Try.underlying32) .i64 (k : Int) (by omega) (by rw [Try.len32]; omega), Try.len32, Try.elem32]
  have e : ¬ 24 = k := by omega
  simp [sizeOf, typeInfo, hi, hz1, slicedAt, e, Addr.add_lit, Result.andThen]
theorem spelt_start (w : World) (C : Array Value) (hC : ∀ t, t < 24 → C[t]? = some (.int .u8 0)) : Spelt w.heap.size 24 [] (w.alloc (.cells C 32)) := by
  refine ⟨rfl, fun t ht => ⟨0, ?_⟩, fun t ht => by simp at ht, fun t => ?_⟩
  · rw [World.cell?_alloc_mark, hC t ht]
  · rw [World.frozen?_alloc_mark]; simp
theorem zeros24 : ∀ t, t < 24 → (#[Value.int .u8 0, .int .u8 0, .int .u8 0, .int .u8 0, .int .u8 0, .int .u8 0, .int .u8 0, .int .u8 0, .int .u8 0, .int .u8 0, .int .u8 0, .int .u8 0, .int .u8 0, .int .u8 0, .int .u8 0, .int .u8 0, .int .u8 0, .int .u8 0, .int .u8 0, .int .u8 0, .int .u8 0, .int .u8 0, .int .u8 0, .int .u8 0] : Array Value)[t]? = some (.int .u8 0) := by
  intro t ht
  show (Array.replicate 24 (Value.int .u8 0))[t]? = _
  simp [ht]
theorem spell_end {N : Int} {L : List UInt8} (h0 : 0 < N) (hL : L.length ≤ 19 ∧ L.all isD = true ∧ N = 0 * p10 L.length + val L) : L.all isD = true ∧ val L = N ∧ 1 ≤ L.length ∧ L.length ≤ 19 := by
  obtain ⟨h1, h2, h3⟩ := hL
  rw [Int.zero_mul, Int.zero_add] at h3
  refine ⟨h2, h3.symm, ?_, h1⟩
  cases L with
  | nil => rw [val_nil] at h3; omega
  | cons c L => simp

set_option maxHeartbeats 1000000 in
theorem spell_pos (N : Int) (w : World) (h0 : 0 < N) (h1 : N ≤ 9223372036854775807) :
    Calls Try.prog 7 #[.int .i64 N] w fun e w' => ∃ t : ByteArray, e = .returned (.string t) ∧ Spells t N ∧ Below w.heap.size w w' := by
  have hne : (N == 0) = false := by rw [beq_eq_false_iff_ne]; omega
  go_enter Try.func7, Try.ntmps7
  go_wp2
  go_loopw [0, 4] (fun n i wr => ∃ (k : Nat) (q : Int) (L : List UInt8), i = .int .i64 k ∧ n = .int .i64 q ∧ 0 ≤ q ∧ Spelt w.heap.size k L wr ∧ (L.length ≤ 19 ∧ L.all isD = true ∧ N = q * p10 L.length + val L) ∧ Below w.heap.size w wr ∧ w.heap.size < wr.heap.size) (fun n _ _ => (intOf n).toNat)
  case atStart =>
    refine ⟨24, N, [], rfl, rfl, by omega, spelt_start w _ zeros24, ⟨by decide, rfl, ?_⟩, (Below.refl _ _).alloc (Nat.le_refl _) _, by simp⟩
    rw [List.length_nil, p10_zero, val_nil]; omega
  case round =>
    obtain ⟨k, q, L, rfl, rfl, hq, hsp, hL, hbel, hsz⟩ := hrel
    by_cases hlt : 0 < q
    · obtain ⟨k, rfl⟩ : ∃ k', k = k' + 1 := by have h2 := hsp.1; have h3 := hL.1; exact ⟨k - 1, by omega⟩
      have hk24 : k < 24 := by have h2 := hsp.1; omega
      obtain ⟨v, hcv⟩ := hsp.2.1 k hk24
      have hfr := hsp.2.2.2 k
      have hq2 : q ≤ 9223372036854775807 := by
        have h4 : q * 1 ≤ q * p10 L.length := Int.mul_le_mul_of_nonneg_left (p10_pos _) (by omega)
        have h5 := val_bd L hL.2.1
        have h6 := hL.2.2
        omega
      have HL : Hid (L.length ≤ 19 ∧ L.all isD = true ∧ N = q * p10 L.length + val L) := hL
      clear hL
      go_wp2
      obtain ⟨c, hc1, hc2, hc3⟩ := digit_of q
      go_roundw
      case rel => exact ⟨k, q / 10, c :: L, rfl, rfl, by omega, spelt_step hsp hk24 hc1, spell_num h1 hlt HL.out hc2 hc3, hbel.setCell (Nat.le_refl _) _, by simpa [World.setCell] using hsz⟩
      case measure => simp [intOf]; omega
    · obtain rfl : q = 0 := by omega
      have hE := spell_end h0 hL
      have hk1 := hsp.1
      have HE : Hid (L.all isD = true ∧ val L = N ∧ 1 ≤ L.length ∧ L.length ≤ 19) := hE
      have hlen : L.length = 24 - k := by omega
      have hkb : k ≤ 23 := by have := hE.2.2.1; omega
      have hconv := conv_at (c := 24 - k) hlen hsp.2.2.1
      have HN : Hid (L.length = 24 - k) := hlen
      have hsl := slice_tail w.heap.size k hkb
      clear hE hL hk1 hlen
      go_wp2
      go_ret
      exact ⟨⟨L.toArray⟩, ret_str rfl, by have h := HE.out; exact h, hbel⟩

/-- THE CONTRACT of spellDecimal, every n ≥ 0. -/
theorem spell_any (N : Int) (w : World) (h0 : 0 ≤ N) (h1 : N ≤ 9223372036854775807) :
    Calls Try.prog 7 #[.int .i64 N] w fun e w' => ∃ t : ByteArray, e = .returned (.string t) ∧ Spells t N ∧ Below w.heap.size w w' := by
  by_cases h : N = 0
  · subst h
    go_enter Try.func7, Try.ntmps7
    go_wp2
    go_ret
    exact ⟨⟨#[48]⟩, ret_str rfl, ⟨by decide, by decide, by decide, by decide⟩, Below.refl _ _⟩
  · exact spell_pos N w (by omega) h1
end Go.Proofs.Qxb6621703a.Val
