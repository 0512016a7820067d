/- The walk of isScheme. -/
import Derived.Test.Qxb6600081aModsWalks
namespace Go.Proofs.Qxb6600081aMods
open Go.RowKit

theorem sch_false {s : ByteArray} {k : Nat} (h : schTo (s.data.toList.take k) = false) : isSch s.data.toList = false := by
  rw [isSch_of, schTo_take _ k h]; rfl

theorem take_nil_iff (s : ByteArray) (k : Nat) (h : k < s.size) : s.data.toList.take k = [] ↔ k = 0 := by
  rw [List.take_eq_nil_iff]
  constructor
  · rintro (h1 | h1)
    · exact h1
    · have := size_list s; rw [h1] at this; simp at this; omega
  · exact Or.inl

set_option maxHeartbeats 2000000 in
theorem sch21 (s : ByteArray) (w : World) (hs : s.size ≤ maxLen) :
    Calls Trym.prog 21 #[.string s] w fun e w' => e = .returned (.bool (isSch s.data.toList)) ∧ w' = w := by
  unfold maxLen at hs
  go_enter Trym.func21, Trym.ntmps21
  go_wp2
  go_loop [8] (fun i => ∃ k : Nat, k ≤ s.size ∧ i = .int .i64 k ∧ schTo (s.data.toList.take k) = true) (fun i => s.size - (intOf i).toNat)
  case atStart => exact ⟨0, Nat.zero_le _, rfl, rfl⟩
  case round =>
    obtain ⟨k, hk, rfl, hall⟩ := hrel
    have HA : Hid (schTo (s.data.toList.take k) = true) := hall
    clear hall
    by_cases hlt : k < s.size
    · have HS : Hid (schTo (s.data.toList.take (k + 1)) = if k = 0 then ltrB s[k] else tailB s[k]) := by
        show _ = _
        rw [take_snoc s k hlt, schTo_snoc, HA.out, Bool.true_and]
        simp only [take_nil_iff s k hlt]
      by_cases hl : ltrI (s[k].toNat : Int) = true
      · -- a letter
        have HV : Hid (schTo (s.data.toList.take (k + 1)) = true) := by
          show _ = _
          rw [HS.out]
          split
          · exact hl
          · exact ltr_tail _ hl
        rcases (show (65 ≤ (s[k].toNat : Int) ∧ (s[k].toNat : Int) ≤ 90) ∨ (97 ≤ (s[k].toNat : Int) ∧ (s[k].toNat : Int) ≤ 122) from by simp [ltrI] at hl; omega) with ⟨h, h'⟩ | ⟨h, h'⟩
        all_goals
          first | (have f0 : 97 ≤ (s[k].toNat : Int) := by omega) | (have f0 : ¬ 97 ≤ (s[k].toNat : Int) := by omega)
          first | (have f1 : (s[k].toNat : Int) ≤ 122 := by omega) | (have f1 : ¬ (s[k].toNat : Int) ≤ 122 := by omega)
          first | (have f2 : 65 ≤ (s[k].toNat : Int) := by omega) | (have f2 : ¬ 65 ≤ (s[k].toNat : Int) := by omega)
          first | (have f3 : (s[k].toNat : Int) ≤ 90 := by omega) | (have f3 : ¬ (s[k].toNat : Int) ≤ 90 := by omega)
          first | (have f4 : (s[k].toNat : Int) < 48 := by omega) | (have f4 : ¬ (s[k].toNat : Int) < 48 := by omega)
          first | (have f5 : 57 < (s[k].toNat : Int) := by omega) | (have f5 : ¬ 57 < (s[k].toNat : Int) := by omega)
          first | (have g0 : ((s[k].toNat : Int) != 43) = true := by rw [bne_iff_ne]; omega) | (have g0 : ((s[k].toNat : Int) != 43) = false := by simp; omega)
          first | (have g1 : ((s[k].toNat : Int) != 45) = true := by rw [bne_iff_ne]; omega) | (have g1 : ((s[k].toNat : Int) != 45) = false := by simp; omega)
          first | (have g2 : ((s[k].toNat : Int) != 46) = true := by rw [bne_iff_ne]; omega) | (have g2 : ((s[k].toNat : Int) != 46) = false := by simp; omega)
          clear hl
          go_wp2
          go_round
          case rel => exact ⟨k + 1, by omega, by go_num, HV.out⟩
          case measure => simp [intOf]; omega
      · by_cases hk0 : k = 0
        · subst hk0
          have HV : Hid (isSch s.data.toList = false) := sch_false (k := 1) (by
            have := HS.out
            simp only [if_true] at this
            rw [this]
            simpa [ltrB] using hl)
          rcases (show (s[0].toNat : Int) < 65 ∨ (91 ≤ (s[0].toNat : Int) ∧ (s[0].toNat : Int) ≤ 96) ∨ 123 ≤ (s[0].toNat : Int) from by simp [ltrI] at hl; omega) with h | ⟨h, h'⟩ | h
          all_goals
            first | (have f0 : 97 ≤ (s[0].toNat : Int) := by omega) | (have f0 : ¬ 97 ≤ (s[0].toNat : Int) := by omega)
            first | (have f1 : (s[0].toNat : Int) ≤ 122 := by omega) | (have f1 : ¬ (s[0].toNat : Int) ≤ 122 := by omega)
            first | (have f2 : 65 ≤ (s[0].toNat : Int) := by omega) | (have f2 : ¬ 65 ≤ (s[0].toNat : Int) := by omega)
            first | (have f3 : (s[0].toNat : Int) ≤ 90 := by omega) | (have f3 : ¬ (s[0].toNat : Int) ≤ 90 := by omega)
            clear hl
            go_wp2
            go_ret
            exact ⟨ret_bool HV.out.symm, rfl⟩
        · have hkb : ((k : Int) == 0) = false := by simp; omega
          by_cases ht : tailI (s[k].toNat : Int) = true
          · have HV : Hid (schTo (s.data.toList.take (k + 1)) = true) := by
              show _ = _
              rw [HS.out, if_neg hk0]
              exact ht
            rcases (show (43 ≤ (s[k].toNat : Int) ∧ (s[k].toNat : Int) ≤ 43) ∨ (45 ≤ (s[k].toNat : Int) ∧ (s[k].toNat : Int) ≤ 45) ∨ (46 ≤ (s[k].toNat : Int) ∧ (s[k].toNat : Int) ≤ 46) ∨ (48 ≤ (s[k].toNat : Int) ∧ (s[k].toNat : Int) ≤ 57) from by simp [tailI, digI, hl] at ht; omega) with ⟨h, h'⟩ | ⟨h, h'⟩ | ⟨h, h'⟩ | ⟨h, h'⟩
            all_goals
              first | (have f0 : 97 ≤ (s[k].toNat : Int) := by omega) | (have f0 : ¬ 97 ≤ (s[k].toNat : Int) := by omega)
              first | (have f1 : (s[k].toNat : Int) ≤ 122 := by omega) | (have f1 : ¬ (s[k].toNat : Int) ≤ 122 := by omega)
              first | (have f2 : 65 ≤ (s[k].toNat : Int) := by omega) | (have f2 : ¬ 65 ≤ (s[k].toNat : Int) := by omega)
              first | (have f3 : (s[k].toNat : Int) ≤ 90 := by omega) | (have f3 : ¬ (s[k].toNat : Int) ≤ 90 := by omega)
              first | (have f4 : (s[k].toNat : Int) < 48 := by omega) | (have f4 : ¬ (s[k].toNat : Int) < 48 := by omega)
              first | (have f5 : 57 < (s[k].toNat : Int) := by omega) | (have f5 : ¬ 57 < (s[k].toNat : Int) := by omega)
              first | (have g0 : ((s[k].toNat : Int) != 43) = true := by rw [bne_iff_ne]; omega) | (have g0 : ((s[k].toNat : Int) != 43) = false := by simp; omega)
              first | (have g1 : ((s[k].toNat : Int) != 45) = true := by rw [bne_iff_ne]; omega) | (have g1 : ((s[k].toNat : Int) != 45) = false := by simp; omega)
              first | (have g2 : ((s[k].toNat : Int) != 46) = true := by rw [bne_iff_ne]; omega) | (have g2 : ((s[k].toNat : Int) != 46) = false := by simp; omega)
              clear hl ht hk0
              go_wp2
              go_round
              case rel => exact ⟨k + 1, by omega, by go_num, HV.out⟩
              case measure => simp [intOf]; omega
          · have HV : Hid (isSch s.data.toList = false) := sch_false (k := k + 1) (by
              rw [HS.out, if_neg hk0]
              simpa [tailB] using ht)
            rcases (show (s[k].toNat : Int) < 43 ∨ (44 ≤ (s[k].toNat : Int) ∧ (s[k].toNat : Int) ≤ 44) ∨ (47 ≤ (s[k].toNat : Int) ∧ (s[k].toNat : Int) ≤ 47) ∨ (58 ≤ (s[k].toNat : Int) ∧ (s[k].toNat : Int) ≤ 64) ∨ (91 ≤ (s[k].toNat : Int) ∧ (s[k].toNat : Int) ≤ 96) ∨ 123 ≤ (s[k].toNat : Int) from by simp [tailI, digI, ltrI] at ht; omega) with h | ⟨h, h'⟩ | ⟨h, h'⟩ | ⟨h, h'⟩ | ⟨h, h'⟩ | h
            all_goals
              first | (have f0 : 97 ≤ (s[k].toNat : Int) := by omega) | (have f0 : ¬ 97 ≤ (s[k].toNat : Int) := by omega)
              first | (have f1 : (s[k].toNat : Int) ≤ 122 := by omega) | (have f1 : ¬ (s[k].toNat : Int) ≤ 122 := by omega)
              first | (have f2 : 65 ≤ (s[k].toNat : Int) := by omega) | (have f2 : ¬ 65 ≤ (s[k].toNat : Int) := by omega)
              first | (have f3 : (s[k].toNat : Int) ≤ 90 := by omega) | (have f3 : ¬ (s[k].toNat : Int) ≤ 90 := by omega)
              first | (have f4 : (s[k].toNat : Int) < 48 := by omega) | (have f4 : ¬ (s[k].toNat : Int) < 48 := by omega)
              first | (have f5 : 57 < (s[k].toNat : Int) := by omega) | (have f5 : ¬ 57 < (s[k].toNat : Int) := by omega)
              first | (have g0 : ((s[k].toNat : Int) != 43) = true := by rw [bne_iff_ne]; omega) | (have g0 : ((s[k].toNat : Int) != 43) = false := by simp; omega)
              first | (have g1 : ((s[k].toNat : Int) != 45) = true := by rw [bne_iff_ne]; omega) | (have g1 : ((s[k].toNat : Int) != 45) = false := by simp; omega)
              first | (have g2 : ((s[k].toNat : Int) != 46) = true := by rw [bne_iff_ne]; omega) | (have g2 : ((s[k].toNat : Int) != 46) = false := by simp; omega)
              clear hl ht hk0
              go_wp2
              go_ret
              exact ⟨ret_bool HV.out.symm, rfl⟩
    · obtain rfl : k = s.size := by omega
      go_wp2
      go_ret
      refine ⟨ret_bool ?_, rfl⟩
      have := HA.out
      rw [List.take_of_length_le (by rw [size_list]; exact Nat.le_refl _)] at this
      rw [ByteArray.toList_eq, isSch_of, this]
      rfl

theorem sch15 (s : ByteArray) (w : World) (hs : s.size ≤ maxLen) :
    Calls Trym.prog 15 #[.string s] w fun e w' => e = .returned (.bool (isSch s.data.toList)) ∧ w' = w := by
  go_enter Trym.func15, Trym.ntmps15
  go_wp2_with (go_at_call 21; refine (sch21 s _ hs).mono ?_; rintro e w' ⟨rfl, rfl⟩)
  go_ret
  exact ⟨rfl, rfl⟩

end Go.Proofs.Qxb6600081aMods
