/- The walk of FnIsSchemeShortTextsAsDocumented. -/
import Derived.Test.Qxb6600081aModsScheme
namespace Go.Proofs.Qxb6600081aMods
open Go.RowKit

theorem cat_data (a b : ByteArray) : (a ++ b).data.toList = a.data.toList ++ b.data.toList := by simp
theorem cat_size (a b : ByteArray) : (a ++ b).size = a.size + b.size := ByteArray.size_append
theorem one_size (a : Int) : (strOfNums [a]).size = 1 := strOfNums_size [a]
theorem one_data (a : Int) : (strOfNums [a]).data.toList = [UInt8.ofNat a.toNat] := rfl
theorem byte_of (a : Int) (h0 : 0 ≤ a) (h1 : a ≤ 255) : ((UInt8.ofNat a.toNat).toNat : Int) = a := by simp; omega

theorem ltr_of (a : Int) (h0 : 0 ≤ a) (h1 : a ≤ 255) : ltrB (UInt8.ofNat a.toNat) = ltrI a := by unfold ltrB; rw [byte_of a h0 h1]
theorem tail_of (a : Int) (h0 : 0 ≤ a) (h1 : a ≤ 255) : tailB (UInt8.ofNat a.toNat) = tailI a := by unfold tailB; rw [byte_of a h0 h1]
theorem none_sch : isSch (⟨#[]⟩ : ByteArray).data.toList = false := rfl
theorem one_sch (a : Int) (h0 : 0 ≤ a) (h1 : a ≤ 255) : isSch (strOfNums [a]).data.toList = ltrI a := by
  rw [one_data, ← ltr_of a h0 h1]; simp [isSch]
theorem q_one (a : Int) (h0 : 0 ≤ a) (h1 : a ≤ 255) : isSch ((⟨#[113]⟩ : ByteArray) ++ strOfNums [a]).data.toList = tailI a := by
  rw [cat_data, one_data, ← tail_of a h0 h1]
  have e : ltrB 113 = true := by decide
  simp [isSch, e]
theorem one_q (a : Int) (h0 : 0 ≤ a) (h1 : a ≤ 255) : isSch (strOfNums [a] ++ (⟨#[113]⟩ : ByteArray)).data.toList = ltrI a := by
  rw [cat_data, one_data, ← ltr_of a h0 h1]
  have e : tailB 113 = true := by decide
  simp [isSch, e]

set_option maxHeartbeats 400000 in
/-- c is a letter. -/
theorem short_letter (a : Int) (w : World) (h0 : 0 ≤ a) (h1 : a ≤ 255) (hL : ltrI a = true) (hTail : tailI a = true) :
    Calls Trym.prog 8 #[.int .u8 a] w fun e w' => e = .returned (.bool true) ∧ Grown w w' := by
  have hsz := one_size a
  have HT : Hid (tailI a = true) := hTail
  have HL : Hid (ltrI a = true) := hL
  clear hTail hL
  go_enter Trym.func8, Trym.ntmps8
  go_wp2_with fail
  refine (sch15 _ _ (by decide)).mono ?_
  rintro e w2 ⟨rfl, hw2⟩
  rw [hw2, none_sch]
  clear hw2 w2
  go_wp2_with fail
  refine (one12 a _).mono ?_
  rintro e w2 ⟨rfl, hw2⟩
  rw [hw2]
  clear hw2 w2
  go_wp2_with fail
  refine (letter16 a _).mono ?_
  rintro e w2 ⟨rfl, hw2⟩
  rw [hw2, HL.out]
  clear hw2 w2
  go_wp2_with fail
  refine (sch15 _ _ (by rw [one_size]; decide)).mono ?_
  rintro e w2 ⟨rfl, hw2⟩
  rw [hw2, one_sch a h0 h1, HL.out]
  clear hw2 w2
  go_wp2_with fail
  refine (sch15 _ _ (by rw [cat_size, one_size]; decide)).mono ?_
  rintro e w2 ⟨rfl, hw2⟩
  rw [hw2, q_one a h0 h1, HT.out]
  clear hw2 w2
  go_wp2_with fail
  refine (sch15 _ _ (by rw [cat_size, one_size]; decide)).mono ?_
  rintro e w2 ⟨rfl, hw2⟩
  rw [hw2, one_q a h0 h1, HL.out]
  clear hw2 w2
  go_wp2
  go_ret
  exact ⟨rfl, (Grown.refl _).alloc _ _⟩

set_option maxHeartbeats 400000 in
/-- c is a digit. -/
theorem short_digit (a : Int) (w : World) (h0 : 0 ≤ a) (h1 : a ≤ 255) (hL : ltrI a = false) (hD : digI a = true) (hTail : tailI a = true) :
    Calls Trym.prog 8 #[.int .u8 a] w fun e w' => e = .returned (.bool true) ∧ Grown w w' := by
  have HD : Hid (digI a = true) := hD
  clear hD
  have hsz := one_size a
  have HT : Hid (tailI a = true) := hTail
  have HL : Hid (ltrI a = false) := hL
  clear hTail hL
  go_enter Trym.func8, Trym.ntmps8
  go_wp2_with fail
  refine (sch15 _ _ (by decide)).mono ?_
  rintro e w2 ⟨rfl, hw2⟩
  rw [hw2, none_sch]
  clear hw2 w2
  go_wp2_with fail
  refine (one12 a _).mono ?_
  rintro e w2 ⟨rfl, hw2⟩
  rw [hw2]
  clear hw2 w2
  go_wp2_with fail
  refine (letter16 a _).mono ?_
  rintro e w2 ⟨rfl, hw2⟩
  rw [hw2, HL.out]
  clear hw2 w2
  go_wp2_with fail
  refine (sch15 _ _ (by rw [one_size]; decide)).mono ?_
  rintro e w2 ⟨rfl, hw2⟩
  rw [hw2, one_sch a h0 h1, HL.out]
  clear hw2 w2
  go_wp2_with fail
  refine (digit13 a _).mono ?_
  rintro e w2 ⟨rfl, hw2⟩
  rw [hw2, HD.out]
  clear hw2 w2
  go_wp2_with fail
  refine (sch15 _ _ (by rw [cat_size, one_size]; decide)).mono ?_
  rintro e w2 ⟨rfl, hw2⟩
  rw [hw2, q_one a h0 h1, HT.out]
  clear hw2 w2
  go_wp2_with fail
  refine (sch15 _ _ (by rw [cat_size, one_size]; decide)).mono ?_
  rintro e w2 ⟨rfl, hw2⟩
  rw [hw2, one_q a h0 h1, HL.out]
  clear hw2 w2
  go_wp2
  go_ret
  exact ⟨rfl, (Grown.refl _).alloc _ _⟩

set_option maxHeartbeats 400000 in
theorem short_plus (a : Int) (w : World) (h0 : 0 ≤ a) (h1 : a ≤ 255) (hL : ltrI a = false) (hD : digI a = false) (hP : (a == 43) = true) (hTail : tailI a = true) :
    Calls Trym.prog 8 #[.int .u8 a] w fun e w' => e = .returned (.bool true) ∧ Grown w w' := by
  have HD : Hid (digI a = false) := hD
  clear hD
  have hsz := one_size a
  have HT : Hid (tailI a = true) := hTail
  have HL : Hid (ltrI a = false) := hL
  clear hTail hL
  go_enter Trym.func8, Trym.ntmps8
  go_wp2_with fail
  refine (sch15 _ _ (by decide)).mono ?_
  rintro e w2 ⟨rfl, hw2⟩
  rw [hw2, none_sch]
  clear hw2 w2
  go_wp2_with fail
  refine (one12 a _).mono ?_
  rintro e w2 ⟨rfl, hw2⟩
  rw [hw2]
  clear hw2 w2
  go_wp2_with fail
  refine (letter16 a _).mono ?_
  rintro e w2 ⟨rfl, hw2⟩
  rw [hw2, HL.out]
  clear hw2 w2
  go_wp2_with fail
  refine (sch15 _ _ (by rw [one_size]; decide)).mono ?_
  rintro e w2 ⟨rfl, hw2⟩
  rw [hw2, one_sch a h0 h1, HL.out]
  clear hw2 w2
  go_wp2_with fail
  refine (digit13 a _).mono ?_
  rintro e w2 ⟨rfl, hw2⟩
  rw [hw2, HD.out]
  clear hw2 w2
  go_wp2_with fail
  refine (sch15 _ _ (by rw [cat_size, one_size]; decide)).mono ?_
  rintro e w2 ⟨rfl, hw2⟩
  rw [hw2, q_one a h0 h1, HT.out]
  clear hw2 w2
  go_wp2_with fail
  refine (sch15 _ _ (by rw [cat_size, one_size]; decide)).mono ?_
  rintro e w2 ⟨rfl, hw2⟩
  rw [hw2, one_q a h0 h1, HL.out]
  clear hw2 w2
  go_wp2
  go_ret
  exact ⟨rfl, (Grown.refl _).alloc _ _⟩

set_option maxHeartbeats 400000 in
theorem short_minus (a : Int) (w : World) (h0 : 0 ≤ a) (h1 : a ≤ 255) (hL : ltrI a = false) (hD : digI a = false) (hP : (a == 43) = false) (hM : (a == 45) = true) (hTail : tailI a = true) :
    Calls Trym.prog 8 #[.int .u8 a] w fun e w' => e = .returned (.bool true) ∧ Grown w w' := by
  have HD : Hid (digI a = false) := hD
  clear hD
  have hsz := one_size a
  have HT : Hid (tailI a = true) := hTail
  have HL : Hid (ltrI a = false) := hL
  clear hTail hL
  go_enter Trym.func8, Trym.ntmps8
  go_wp2_with fail
  refine (sch15 _ _ (by decide)).mono ?_
  rintro e w2 ⟨rfl, hw2⟩
  rw [hw2, none_sch]
  clear hw2 w2
  go_wp2_with fail
  refine (one12 a _).mono ?_
  rintro e w2 ⟨rfl, hw2⟩
  rw [hw2]
  clear hw2 w2
  go_wp2_with fail
  refine (letter16 a _).mono ?_
  rintro e w2 ⟨rfl, hw2⟩
  rw [hw2, HL.out]
  clear hw2 w2
  go_wp2_with fail
  refine (sch15 _ _ (by rw [one_size]; decide)).mono ?_
  rintro e w2 ⟨rfl, hw2⟩
  rw [hw2, one_sch a h0 h1, HL.out]
  clear hw2 w2
  go_wp2_with fail
  refine (digit13 a _).mono ?_
  rintro e w2 ⟨rfl, hw2⟩
  rw [hw2, HD.out]
  clear hw2 w2
  go_wp2_with fail
  refine (sch15 _ _ (by rw [cat_size, one_size]; decide)).mono ?_
  rintro e w2 ⟨rfl, hw2⟩
  rw [hw2, q_one a h0 h1, HT.out]
  clear hw2 w2
  go_wp2_with fail
  refine (sch15 _ _ (by rw [cat_size, one_size]; decide)).mono ?_
  rintro e w2 ⟨rfl, hw2⟩
  rw [hw2, one_q a h0 h1, HL.out]
  clear hw2 w2
  go_wp2
  go_ret
  exact ⟨rfl, (Grown.refl _).alloc _ _⟩

set_option maxHeartbeats 400000 in
theorem short_dot (a : Int) (w : World) (h0 : 0 ≤ a) (h1 : a ≤ 255) (hL : ltrI a = false) (hD : digI a = false) (hP : (a == 43) = false) (hM : (a == 45) = false) (hD3 : (a == 46) = true) (hTail : tailI a = true) :
    Calls Trym.prog 8 #[.int .u8 a] w fun e w' => e = .returned (.bool true) ∧ Grown w w' := by
  have HD : Hid (digI a = false) := hD
  clear hD
  have hsz := one_size a
  have HT : Hid (tailI a = true) := hTail
  have HL : Hid (ltrI a = false) := hL
  clear hTail hL
  go_enter Trym.func8, Trym.ntmps8
  go_wp2_with fail
  refine (sch15 _ _ (by decide)).mono ?_
  rintro e w2 ⟨rfl, hw2⟩
  rw [hw2, none_sch]
  clear hw2 w2
  go_wp2_with fail
  refine (one12 a _).mono ?_
  rintro e w2 ⟨rfl, hw2⟩
  rw [hw2]
  clear hw2 w2
  go_wp2_with fail
  refine (letter16 a _).mono ?_
  rintro e w2 ⟨rfl, hw2⟩
  rw [hw2, HL.out]
  clear hw2 w2
  go_wp2_with fail
  refine (sch15 _ _ (by rw [one_size]; decide)).mono ?_
  rintro e w2 ⟨rfl, hw2⟩
  rw [hw2, one_sch a h0 h1, HL.out]
  clear hw2 w2
  go_wp2_with fail
  refine (digit13 a _).mono ?_
  rintro e w2 ⟨rfl, hw2⟩
  rw [hw2, HD.out]
  clear hw2 w2
  go_wp2_with fail
  refine (sch15 _ _ (by rw [cat_size, one_size]; decide)).mono ?_
  rintro e w2 ⟨rfl, hw2⟩
  rw [hw2, q_one a h0 h1, HT.out]
  clear hw2 w2
  go_wp2_with fail
  refine (sch15 _ _ (by rw [cat_size, one_size]; decide)).mono ?_
  rintro e w2 ⟨rfl, hw2⟩
  rw [hw2, one_q a h0 h1, HL.out]
  clear hw2 w2
  go_wp2
  go_ret
  exact ⟨rfl, (Grown.refl _).alloc _ _⟩

set_option maxHeartbeats 400000 in
theorem short_other (a : Int) (w : World) (h0 : 0 ≤ a) (h1 : a ≤ 255) (hL : ltrI a = false) (hD : digI a = false) (hP : (a == 43) = false) (hM : (a == 45) = false) (hD3 : (a == 46) = false) (hTail : tailI a = false) :
    Calls Trym.prog 8 #[.int .u8 a] w fun e w' => e = .returned (.bool true) ∧ Grown w w' := by
  have HD : Hid (digI a = false) := hD
  clear hD
  have hsz := one_size a
  have HT : Hid (tailI a = false) := hTail
  have HL : Hid (ltrI a = false) := hL
  clear hTail hL
  go_enter Trym.func8, Trym.ntmps8
  go_wp2_with fail
  refine (sch15 _ _ (by decide)).mono ?_
  rintro e w2 ⟨rfl, hw2⟩
  rw [hw2, none_sch]
  clear hw2 w2
  go_wp2_with fail
  refine (one12 a _).mono ?_
  rintro e w2 ⟨rfl, hw2⟩
  rw [hw2]
  clear hw2 w2
  go_wp2_with fail
  refine (letter16 a _).mono ?_
  rintro e w2 ⟨rfl, hw2⟩
  rw [hw2, HL.out]
  clear hw2 w2
  go_wp2_with fail
  refine (sch15 _ _ (by rw [one_size]; decide)).mono ?_
  rintro e w2 ⟨rfl, hw2⟩
  rw [hw2, one_sch a h0 h1, HL.out]
  clear hw2 w2
  go_wp2_with fail
  refine (digit13 a _).mono ?_
  rintro e w2 ⟨rfl, hw2⟩
  rw [hw2, HD.out]
  clear hw2 w2
  go_wp2_with fail
  refine (sch15 _ _ (by rw [cat_size, one_size]; decide)).mono ?_
  rintro e w2 ⟨rfl, hw2⟩
  rw [hw2, q_one a h0 h1, HT.out]
  clear hw2 w2
  go_wp2_with fail
  refine (sch15 _ _ (by rw [cat_size, one_size]; decide)).mono ?_
  rintro e w2 ⟨rfl, hw2⟩
  rw [hw2, one_q a h0 h1, HL.out]
  clear hw2 w2
  go_wp2
  go_ret
  exact ⟨rfl, (Grown.refl _).alloc _ _⟩

theorem short_walk (a : Int) (w : World) (h0 : 0 ≤ a) (h1 : a ≤ 255) : Calls Trym.prog 8 #[.int .u8 a] w fun e w' => e = .returned (.bool true) ∧ Grown w w' := by
  by_cases hL : ltrI a = true
  · exact short_letter a w h0 h1 hL (by simp [tailI, hL])
  have hL' : ltrI a = false := by simpa using hL
  by_cases hD : digI a = true
  · exact short_digit a w h0 h1 hL' hD (by simp [tailI, hD])
  have hD' : digI a = false := by simpa using hD
  by_cases hP : a = 43
  · exact short_plus a w h0 h1 hL' hD' (by simp [hP]) (by simp [tailI, hP])
  by_cases hM : a = 45
  · exact short_minus a w h0 h1 hL' hD' (by simp [hP]) (by simp [hM]) (by simp [tailI, hM])
  by_cases hT : a = 46
  · exact short_dot a w h0 h1 hL' hD' (by simp [hP]) (by simp [hM]) (by simp [hT]) (by simp [tailI, hT])
  · exact short_other a w h0 h1 hL' hD' (by simp [hP]) (by simp [hM]) (by simp [hT]) (by simp [tailI, hL', hD', hP, hM, hT])

end Go.Proofs.Qxb6600081aMods
