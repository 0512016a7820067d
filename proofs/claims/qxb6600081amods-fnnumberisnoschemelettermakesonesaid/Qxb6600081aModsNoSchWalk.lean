/- The walk of FnNumberIsNoSchemeLetterMakesOne. -/
import Derived.Test.Qxb6600081aModsScheme
namespace Go.Proofs.Qxb6600081aMods
open Go.RowKit

theorem catData (a b : ByteArray) : (a ++ b).data.toList = a.data.toList ++ b.data.toList := by simp
theorem oneSize (a : Int) : (strOfNums [a]).size = 1 := strOfNums_size [a]
theorem oneData (a : Int) : (strOfNums [a]).data.toList = [UInt8.ofNat a.toNat] := rfl
theorem ltrOf (a : Int) (h0 : 0 ≤ a) (h1 : a ≤ 255) : ltrB (UInt8.ofNat a.toNat) = ltrI a := by
  unfold ltrB
  have : ((UInt8.ofNat a.toNat).toNat : Int) = a := by simp; omega
  rw [this]
theorem one_before (s : ByteArray) (a : Int) (h0 : 0 ≤ a) (h1 : a ≤ 255) (h : isNum s.data.toList = true) : isSch (strOfNums [a] ++ s).data.toList = ltrI a := by
  rw [catData, oneData, ← ltrOf a h0 h1]
  exact sch_before _ _ h

theorem bytes14 (s : ByteArray) (a : Int) (w : World) (hs : s.size ≤ maxLen) : Calls Trym.prog 14 #[.string s, .int .u8 a] w fun e w' => e = .returned (.bool (decide (s.size ≤ 1048576))) ∧ w' = w := by
  unfold maxLen at hs
  by_cases h : (1048576 : Int) < s.size
  · have H : Hid (decide (s.size ≤ 1048576) = false) := decide_eq_false (by omega)
    go_enter Trym.func14, Trym.ntmps14
    go_wp2
    go_ret
    exact ⟨ret_bool H.out.symm, rfl⟩
  · have H : Hid (decide (s.size ≤ 1048576) = true) := decide_eq_true (by omega)
    go_enter Trym.func14, Trym.ntmps14
    go_wp2
    go_ret
    exact ⟨ret_bool H.out.symm, rfl⟩

set_option maxHeartbeats 1000000 in
theorem nosch_walk (s : ByteArray) (a : Int) (w : World) (hs : s.size ≤ maxLen) (h0 : 0 ≤ a) (h1 : a ≤ 255) :
    Calls Trym.prog 5 #[.string s, .int .u8 a] w fun e w' => e = .returned (.bool true) ∧ Grown w w' := by
  by_cases hz : s.size ≤ 1048576
  · have HZ : Hid (decide (s.size ≤ 1048576) = true) := decide_eq_true hz
    cases hn : isNum s.data.toList with
    | false =>
      have HN : Hid (isNum s.data.toList = false) := hn
      clear hn
      go_enter Trym.func5, Trym.ntmps5
      go_wp2_with fail
      refine (bytes14 s a _ hs).mono ?_
      rintro e w2 ⟨rfl, hw2⟩
      rw [hw2, HZ.out]
      clear hw2 w2
      go_wp2_with fail
      refine (num10 s _ hs).mono ?_
      rintro e w2 ⟨rfl, hw2⟩
      rw [hw2, HN.out]
      clear hw2 w2
      go_wp2
      go_ret
      exact ⟨rfl, Grown.refl _⟩
    | true =>
      have HN : Hid (isNum s.data.toList = true) := hn
      clear hn
      have hsz := oneSize a
      go_enter Trym.func5, Trym.ntmps5
      go_wp2_with fail
      refine (bytes14 s a _ hs).mono ?_
      rintro e w2 ⟨rfl, hw2⟩
      rw [hw2, HZ.out]
      clear hw2 w2
      go_wp2_with fail
      refine (num10 s _ hs).mono ?_
      rintro e w2 ⟨rfl, hw2⟩
      rw [hw2, HN.out]
      clear hw2 w2
      go_wp2_with fail
      refine (sch15 s _ hs).mono ?_
      rintro e w2 ⟨rfl, hw2⟩
      rw [hw2, num_no_sch _ HN.out]
      clear hw2 w2
      go_wp2_with fail
      refine (one12 a _).mono ?_
      rintro e w2 ⟨rfl, hw2⟩
      rw [hw2]
      clear hw2 w2
      go_wp2_with fail
      refine (sch15 _ _ (by rw [ByteArray.size_append, oneSize]; unfold maxLen; omega)).mono ?_
      rintro e w2 ⟨rfl, hw2⟩
      rw [hw2, one_before s a h0 h1 HN.out]
      clear hw2 w2
      go_wp2_with fail
      refine (letter16 a _).mono ?_
      rintro e w2 ⟨rfl, hw2⟩
      rw [hw2]
      clear hw2 w2
      cases hl : ltrI a with
      | false =>
        clear hl
        go_wp2
        go_ret
        exact ⟨rfl, (Grown.refl _).alloc _ _⟩
      | true =>
        clear hl
        go_wp2
        go_ret
        exact ⟨rfl, (Grown.refl _).alloc _ _⟩
  · have HZ : Hid (decide (s.size ≤ 1048576) = false) := decide_eq_false hz
    go_enter Trym.func5, Trym.ntmps5
    go_wp2_with fail
    refine (bytes14 s a _ hs).mono ?_
    rintro e w2 ⟨rfl, hw2⟩
    rw [hw2, HZ.out]
    clear hw2 w2
    go_wp2
    go_ret
    exact ⟨rfl, Grown.refl _⟩

end Go.Proofs.Qxb6600081aMods
