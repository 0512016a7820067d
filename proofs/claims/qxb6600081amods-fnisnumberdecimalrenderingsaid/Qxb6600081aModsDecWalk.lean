/- The walk of FnIsNumberDecimalRendering. -/
import Derived.Test.Qxb6600081aModsUtoa
namespace Go.Proofs.Qxb6600081aMods
open Go.RowKit

theorem cat_data (a b : ByteArray) : (a ++ b).data.toList = a.data.toList ++ b.data.toList := by simp
theorem cat_size (a b : ByteArray) : (a ++ b).size = a.size + b.size := ByteArray.size_append
theorem one_size (a : Int) : (strOfNums [a]).size = 1 := strOfNums_size [a]
theorem one_data (a : Int) : (strOfNums [a]).data.toList = [UInt8.ofNat a.toNat] := rfl

theorem dig_of (a : Int) (h0 : 0 ≤ a) (h1 : a ≤ 255) : digB (UInt8.ofNat a.toNat) = digI a := by
  unfold digB
  have : ((UInt8.ofNat a.toNat).toNat : Int) = a := by simp; omega
  rw [this]

theorem plus_no (s : ByteArray) : isNum ((⟨#[43]⟩ : ByteArray) ++ s).data.toList = false := by
  rw [cat_data]; exact num_plus _ 43 (by decide)
theorem minus_no (s : ByteArray) : isNum ((⟨#[45]⟩ : ByteArray) ++ s).data.toList = false := by
  rw [cat_data]; exact num_plus _ 45 (by decide)
theorem minus_no2 (s t : ByteArray) : isNum (((⟨#[45]⟩ : ByteArray) ++ s) ++ t).data.toList = false := by
  rw [cat_data, cat_data, List.append_assoc]; exact num_plus _ 45 (by decide)
theorem then_one (s : ByteArray) (a : Int) (h0 : 0 ≤ a) (h1 : a ≤ 255) (h : isNum s.data.toList = true) : isNum (s ++ strOfNums [a]).data.toList = digI a := by
  rw [cat_data, one_data, num_then _ _ h, dig_of a h0 h1]

theorem wrap_bounds (x : Int) : 0 ≤ IntKind.u64.wrap x ∧ IntKind.u64.wrap x ≤ 18446744073709551615 := by
  rw [IntKind.wrap_u64]; omega

set_option maxHeartbeats 1000000 in
theorem dec_pos (n a : Int) (w : World) (hn : n ≤ 9223372036854775807) (hneg : 0 ≤ n) (h0 : 0 ≤ a) (h1 : a ≤ 255) :
    Calls Trym.prog 4 #[.int .i64 n, .int .u8 a] w fun e w' => e = .returned (.bool true) ∧ Grown w w' := by
  have hd : decide (n < 0) = false := decide_eq_false (by omega)
  go_enter Trym.func4, Trym.ntmps4
  go_wp2_with fail
  refine (utoa11 _ _ (by omega) (by omega)).mono ?_
  rintro e w1 ⟨s, rfl, hs, hnum, hg⟩
  have HN : Hid (isNum s.data.toList = true) := hnum
  clear hnum
  go_wp2_with fail
  refine (num10 s _ (by unfold maxLen; omega)).mono ?_
  rintro e w2 ⟨rfl, hw2⟩
  rw [hw2, HN.out]
  clear hw2 w2
  go_wp2_with fail
  refine (num10 _ _ (by rw [cat_size]; unfold maxLen; show 1 + _ ≤ _; omega)).mono ?_
  rintro e w2 ⟨rfl, hw2⟩
  rw [hw2, plus_no]
  clear hw2 w2
  go_wp2_with fail
  refine (num10 s _ (by unfold maxLen; omega)).mono ?_
  rintro e w2 ⟨rfl, hw2⟩
  rw [hw2, HN.out]
  clear hw2 w2
  go_wp2_with fail
  refine (one12 a _).mono ?_
  rintro e w2 ⟨rfl, hw2⟩
  rw [hw2]
  clear hw2 w2
  have hsz := one_size a
  go_wp2_with fail
  refine (num10 _ _ (by rw [cat_size, one_size]; unfold maxLen; omega)).mono ?_
  rintro e w2 ⟨rfl, hw2⟩
  rw [hw2, then_one s a h0 h1 HN.out]
  clear hw2 w2
  go_wp2_with (go_at_call 13; refine (digit13 a _).mono ?_; rintro e w2 ⟨rfl, rfl⟩)
  go_ret
  exact ⟨ret_bool (by simp), hg.alloc _ _⟩

set_option maxHeartbeats 1000000 in
theorem dec_neg (n a : Int) (w : World) (hneg : n < 0) :
    Calls Trym.prog 4 #[.int .i64 n, .int .u8 a] w fun e w' => e = .returned (.bool true) ∧ Grown w w' := by
  have hd : decide (n < 0) = true := decide_eq_true hneg
  go_enter Trym.func4, Trym.ntmps4
  go_wp2_with fail
  refine (utoa11 _ _ (wrap_bounds _).1 (wrap_bounds _).2).mono ?_
  rintro e w1 ⟨s, rfl, hs, hnum, hg⟩
  have HN : Hid (isNum s.data.toList = true) := hnum
  clear hnum
  go_wp2_with fail
  refine (num10 s _ (by unfold maxLen; omega)).mono ?_
  rintro e w2 ⟨rfl, hw2⟩
  rw [hw2, HN.out]
  clear hw2 w2
  go_wp2_with fail
  refine (num10 _ _ (by rw [cat_size]; unfold maxLen; show 1 + _ ≤ _; omega)).mono ?_
  rintro e w2 ⟨rfl, hw2⟩
  rw [hw2, plus_no]
  clear hw2 w2
  go_wp2_with fail
  refine (num10 _ _ (by rw [cat_size]; unfold maxLen; show 1 + _ ≤ _; omega)).mono ?_
  rintro e w2 ⟨rfl, hw2⟩
  rw [hw2, minus_no]
  clear hw2 w2
  go_wp2_with fail
  refine (one12 a _).mono ?_
  rintro e w2 ⟨rfl, hw2⟩
  rw [hw2]
  clear hw2 w2
  have hsz := one_size a
  go_wp2_with fail
  refine (num10 _ _ (by rw [cat_size, cat_size, one_size]; unfold maxLen; show 1 + _ + _ ≤ _; omega)).mono ?_
  rintro e w2 ⟨rfl, hw2⟩
  rw [hw2, minus_no2]
  clear hw2 w2
  go_wp2
  go_ret
  exact ⟨rfl, hg.alloc _ _⟩

end Go.Proofs.Qxb6600081aMods
