/- The walks of isNumber, isScheme and the small helpers. -/
import Derived.Test.Qxb6600081aModsProg
import Derived.Test.Qxb6600081aModsPlain
import Derived.WalkSpells
import Derived.WalkLawsBesides
namespace Go.Proofs.Qxb6600081aMods
open Go.RowKit

theorem ret_bool {a b : Bool} (h : a = b) : Ending.returned (.bool a) = .returned (.bool b) := by rw [h]

theorem size_list (s : ByteArray) : s.data.toList.length = s.size := Array.length_toList

set_option maxHeartbeats 400000 in
theorem num20 (s : ByteArray) (w : World) (hs : s.size ≤ maxLen) :
    Calls Trym.prog 20 #[.string s] w fun e w' => e = .returned (.bool (isNum s.data.toList)) ∧ w' = w := by
  unfold maxLen at hs
  go_enter Trym.func20, Trym.ntmps20
  go_wp2
  go_loop [6] (fun i => ∃ k : Nat, k ≤ s.size ∧ i = .int .i64 k ∧ (s.data.toList.take k).all digB = true) (fun i => s.size - (intOf i).toNat)
  case atStart => exact ⟨0, Nat.zero_le _, rfl, rfl⟩
  case round =>
    obtain ⟨k, hk, rfl, hall⟩ := hrel
    have HA : Hid ((s.data.toList.take k).all digB = true) := hall
    clear hall
    by_cases hlt : k < s.size
    · have HS : Hid ((s.data.toList.take (k + 1)).all digB = digB s[k]) := by rw [take_snoc s k hlt, num_snoc, HA.out]; rfl
      by_cases hd : 48 ≤ (s[k].toNat : Int) ∧ (s[k].toNat : Int) ≤ 57
      · have HD : Hid (digB s[k] = true) := decide_eq_true hd
        obtain ⟨hd1, hd2⟩ := hd
        go_wp2
        go_round
        case rel => exact ⟨k + 1, by omega, by go_num, HS.out.trans HD.out⟩
        case measure => simp [intOf]; omega
      · have HD : Hid (digB s[k] = false) := decide_eq_false hd
        have HF : Hid (isNum s.data.toList = false) := by
          have : s.data.toList.all digB = false := all_take _ (k + 1) (HS.out.trans HD.out)
          show isNum s.data.toList = false
          rw [isNum, this]; rfl
        rcases (show (s[k].toNat : Int) < 48 ∨ 57 < (s[k].toNat : Int) from by omega) with h | h
        · clear hd
          go_wp2
          go_ret
          exact ⟨ret_bool HF.out.symm, rfl⟩
        · clear hd
          have h48 : 48 ≤ (s[k].toNat : Int) := by omega
          go_wp2
          go_ret
          exact ⟨ret_bool HF.out.symm, rfl⟩
    · obtain rfl : k = s.size := by omega
      go_wp2
      go_ret
      refine ⟨ret_bool ?_, rfl⟩
      have := HA.out
      rw [List.take_of_length_le (by rw [size_list]; exact Nat.le_refl _)] at this
      rw [ByteArray.toList_eq, isNum, this]
      rfl

theorem num10 (s : ByteArray) (w : World) (hs : s.size ≤ maxLen) :
    Calls Trym.prog 10 #[.string s] w fun e w' => e = .returned (.bool (isNum s.data.toList)) ∧ w' = w := by
  go_enter Trym.func10, Trym.ntmps10
  go_wp2_with (go_at_call 20; refine (num20 s _ hs).mono ?_; rintro e w' ⟨rfl, rfl⟩)
  go_ret
  exact ⟨rfl, rfl⟩

theorem digit13 (a : Int) (w : World) : Calls Trym.prog 13 #[.int .u8 a] w fun e w' => e = .returned (.bool (digI a)) ∧ w' = w := by
  by_cases h1 : 48 ≤ a
  · by_cases h2 : a ≤ 57
    · have H : Hid (digI a = true) := decide_eq_true ⟨h1, h2⟩
      go_enter Trym.func13, Trym.ntmps13
      go_wp2
      go_ret
      exact ⟨ret_bool H.out.symm, rfl⟩
    · have H : Hid (digI a = false) := decide_eq_false (fun h => h2 h.2)
      go_enter Trym.func13, Trym.ntmps13
      go_wp2
      go_ret
      exact ⟨ret_bool H.out.symm, rfl⟩
  · have H : Hid (digI a = false) := decide_eq_false (fun h => h1 h.1)
    go_enter Trym.func13, Trym.ntmps13
    go_wp2
    go_ret
    exact ⟨ret_bool H.out.symm, rfl⟩

theorem letter16 (a : Int) (w : World) : Calls Trym.prog 16 #[.int .u8 a] w fun e w' => e = .returned (.bool (ltrI a)) ∧ w' = w := by
  rcases (show a < 65 ∨ (65 ≤ a ∧ a ≤ 90) ∨ (90 < a ∧ a < 97) ∨ (97 ≤ a ∧ a ≤ 122) ∨ 122 < a from by omega) with h | ⟨h, h'⟩ | ⟨h, h'⟩ | ⟨h, h'⟩ | h
  · have H : Hid (ltrI a = false) := by show ltrI a = false; simp [ltrI]; omega
    go_enter Trym.func16, Trym.ntmps16
    go_wp2
    go_ret
    exact ⟨ret_bool (by first | exact H.out.symm | (rw [H.out]; simp; omega)), rfl⟩
  · have H : Hid (ltrI a = true) := by show ltrI a = true; simp [ltrI]; omega
    go_enter Trym.func16, Trym.ntmps16
    go_wp2
    go_ret
    exact ⟨ret_bool (by first | exact H.out.symm | (rw [H.out]; simp; omega)), rfl⟩
  · have H : Hid (ltrI a = false) := by show ltrI a = false; simp [ltrI]; omega
    go_enter Trym.func16, Trym.ntmps16
    go_wp2
    go_ret
    exact ⟨ret_bool (by first | exact H.out.symm | (rw [H.out]; simp; omega)), rfl⟩
  · have H : Hid (ltrI a = true) := by show ltrI a = true; simp [ltrI]; omega
    go_enter Trym.func16, Trym.ntmps16
    go_wp2
    go_ret
    exact ⟨ret_bool (by first | exact H.out.symm | (rw [H.out]; simp; omega)), rfl⟩
  · have H : Hid (ltrI a = false) := by show ltrI a = false; simp [ltrI]; omega
    go_enter Trym.func16, Trym.ntmps16
    go_wp2
    go_ret
    exact ⟨ret_bool (by first | exact H.out.symm | (rw [H.out]; simp; omega)), rfl⟩

theorem one12 (a : Int) (w : World) :
    Calls Trym.prog 12 #[.int .u8 a] w fun e w' => e = .returned (.string (strOfNums [a])) ∧ w' = w.alloc (.cells #[.int .u8 a] 5) := by
  have hcv := run_convert_bytes_arg (P := Trym.prog) (w.alloc (.cells #[.int .u8 a] 5)) 32 5 Trym.underlying32 Trym.underlying5 w.heap.size 0 1 1 [a] rfl (fun i hi => by
    obtain rfl : i = 0 := by omega
    simp) 9 Trym.underlying9
  go_enter Trym.func12, Trym.ntmps12
  go_wp2
  go_ret
  exact ⟨rfl, rfl⟩

end Go.Proofs.Qxb6600081aMods
