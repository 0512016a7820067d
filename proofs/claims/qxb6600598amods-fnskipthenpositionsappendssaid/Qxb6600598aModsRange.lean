/- The walks of skipsInRange, encodeModel and the two bounds on lengths. -/
import Derived.Test.Qxb6600598aModsRebuild
namespace Go.Proofs.Qxb6600598aMods
open Go.RowKit

/-- What skipsInRange's yes says: the first position, and each of ps as an offset from it, fits in int32. -/
def InRange (Z : Nat → Int) (ln : Nat) (P : Nat → Int) (pn : Nat) : Prop :=
  pn = 0 ∨ ∃ base : Int, base = (if ln = 0 then P 0 else Z 0) ∧ -2147483648 ≤ base ∧ base ≤ 2147483647 ∧ ∀ i, i < pn → base - 2147483648 ≤ P i ∧ P i ≤ base + 2147483647

def RangePost (Z : Nat → Int) (ln : Nat) (P : Nat → Int) (pn : Nat) (w : World) (e : Ending) (w' : World) : Prop :=
  ∃ b, e = .returned (.bool b) ∧ w' = w ∧ (b = true → InRange Z ln P pn)

def BoolPost (w : World) (e : Ending) (w' : World) : Prop := ∃ b, e = .returned (.bool b) ∧ w' = w

theorem bytes13 (ao bo : Option Addr) (n cap nb cb : Nat) (x : Int) (w : World) (hn : n ≤ maxLen) (hb : nb ≤ maxLen) : Calls Trym.prog 13 #[.slice ao n cap, .int .i64 x, .slice bo nb cb] w fun e w' => BoolPost w e w' := by
  unfold maxLen at hn hb
  go_enter Trym.func13, Trym.ntmps13
  go_wp2
  all_goals
    go_ret
    exact ⟨_, rfl, rfl⟩

theorem bytes6 (ao bo : Option Addr) (n cap nb cb : Nat) (x : Int) (w : World) (hn : n ≤ maxLen) (hb : nb ≤ maxLen) : Calls Trym.prog 6 #[.int .i32 x, .slice ao n cap, .slice bo nb cb] w fun e w' => BoolPost w e w' := by
  unfold maxLen at hn hb
  go_enter Trym.func6, Trym.ntmps6
  go_wp2
  all_goals
    go_ret
    exact ⟨_, rfl, rfl⟩

set_option maxHeartbeats 1000000 in
/-- The loop's walk, the first position given. -/
theorem range8 (lo po : Option Addr) (ln lc pn pc : Nat) (Z P : Nat → Int) (w : World) (hl : ln ≤ 1048576) (hp : pn ≤ 1048576) (hR : Reads w .i32 lo ln Z) (hP : Reads w .i64 po pn P)
    (hZ : ∀ i, i < ln → -2147483648 ≤ Z i ∧ Z i ≤ 2147483647) (hPb : ∀ i, i < pn → -9223372036854775808 ≤ P i ∧ P i ≤ 9223372036854775807) :
    Calls Trym.prog 8 #[.slice lo ln lc, .slice po pn pc] w fun e w' => RangePost Z ln P pn w e w' := by
  have HP : Hid (Reads w .i64 po pn P) := hP
  have HPB : Hid (∀ i, i < pn → -9223372036854775808 ≤ P i ∧ P i ≤ 9223372036854775807) := hPb
  by_cases h0 : pn = 0
  · subst h0
    clear hR hP hZ hPb
    go_enter Trym.func8, Trym.ntmps8
    go_wp2
    go_ret
    exact ⟨true, rfl, rfl, fun _ => Or.inl rfl⟩
  · have h0b : ((pn : Int) == 0) = false := by simp; omega
    obtain ⟨ad, rfl, hc0⟩ := hP.2 0 (by omega)
    have hc0' : w.cell? ad = some (.int .i64 (P 0)) := hc0
    by_cases hl0 : ln = 0
    · subst hl0
      obtain ⟨p0, p1⟩ := hPb 0 (by omega)
      by_cases hlow : P 0 < -2147483648
      · clear hR hP hZ hPb hc0
        go_enter Trym.func8, Trym.ntmps8
        go_wp2
        go_ret
        exact ⟨false, rfl, rfl, fun h => by cases h⟩
      by_cases hhigh : 2147483647 < P 0
      · clear hR hP hZ hPb hc0
        go_enter Trym.func8, Trym.ntmps8
        go_wp2
        go_ret
        exact ⟨false, rfl, rfl, fun h => by cases h⟩
      · clear hR hP hZ hPb hc0
        go_enter Trym.func8, Trym.ntmps8
        go_wp2
        go_loop [6] (fun iv => ∃ k : Nat, k ≤ pn ∧ iv = .int .i64 k ∧ ∀ i, i < k → P 0 - 2147483648 ≤ P i ∧ P i ≤ P 0 + 2147483647) (fun iv => pn - (intOf iv).toNat)
        case atStart => exact ⟨0, Nat.zero_le _, rfl, fun i hi => by omega⟩
        case round =>
          obtain ⟨k, hk, rfl, hall⟩ := hrel
          have HA : Hid (∀ i, i < k → P 0 - 2147483648 ≤ P i ∧ P i ≤ P 0 + 2147483647) := hall
          clear hall
          by_cases hlt : k < pn
          · obtain ⟨p2, p3⟩ := HPB.out k hlt
            have hcx : w.cell? (ad.add k) = some (.int .i64 (P k)) := by
              obtain ⟨ad', e, h⟩ := HP.out.2 k hlt
              injection e with e
              rw [e]; exact h
            clear HP HPB
            by_cases hlo : P k < P 0 + -2147483648
            · go_wp2
              go_ret
              exact ⟨false, rfl, rfl, fun h => by cases h⟩
            by_cases hhi : P 0 + 2147483647 < P k
            · go_wp2
              go_ret
              exact ⟨false, rfl, rfl, fun h => by cases h⟩
            · go_wp2
              go_round
              case rel =>
                refine ⟨k + 1, by omega, by go_num, fun i hi => ?_⟩
                by_cases e : i = k
                · subst e; omega
                · exact HA.out i (by omega)
              case measure => simp [intOf]; omega
          · obtain rfl : k = pn := by omega
            go_wp2
            go_ret
            exact ⟨true, rfl, rfl, fun _ => Or.inr ⟨P 0, by rw [if_pos rfl], by omega, by omega, HA.out⟩⟩
    · have hl0' : (0 : Int) < ln := by omega
      obtain ⟨al, rfl, hd0⟩ := hR.2 0 (by omega)
      have hd0' : w.cell? al = some (.int .i32 (Z 0)) := hd0
      obtain ⟨z0, z1⟩ := hZ 0 (by omega)
      clear hR hP hZ hPb hc0 hd0
      go_enter Trym.func8, Trym.ntmps8
      go_wp2
      go_loop [6] (fun iv => ∃ k : Nat, k ≤ pn ∧ iv = .int .i64 k ∧ ∀ i, i < k → Z 0 - 2147483648 ≤ P i ∧ P i ≤ Z 0 + 2147483647) (fun iv => pn - (intOf iv).toNat)
      case atStart => exact ⟨0, Nat.zero_le _, rfl, fun i hi => by omega⟩
      case round =>
        obtain ⟨k, hk, rfl, hall⟩ := hrel
        have HA : Hid (∀ i, i < k → Z 0 - 2147483648 ≤ P i ∧ P i ≤ Z 0 + 2147483647) := hall
        clear hall
        by_cases hlt : k < pn
        · obtain ⟨p2, p3⟩ := HPB.out k hlt
          have hcx : w.cell? (ad.add k) = some (.int .i64 (P k)) := by
            obtain ⟨ad', e, h⟩ := HP.out.2 k hlt
            injection e with e
            rw [e]; exact h
          clear HP HPB
          by_cases hlo : P k < Z 0 + -2147483648
          · go_wp2
            go_ret
            exact ⟨false, rfl, rfl, fun h => by cases h⟩
          by_cases hhi : Z 0 + 2147483647 < P k
          · go_wp2
            go_ret
            exact ⟨false, rfl, rfl, fun h => by cases h⟩
          · go_wp2
            go_round
            case rel =>
              refine ⟨k + 1, by omega, by go_num, fun i hi => ?_⟩
              by_cases e : i = k
              · subst e; omega
              · exact HA.out i (by omega)
            case measure => simp [intOf]; omega
        · obtain rfl : k = pn := by omega
          go_wp2
          go_ret
          exact ⟨true, rfl, rfl, fun _ => Or.inr ⟨Z 0, by rw [if_neg hl0], by omega, by omega, HA.out⟩⟩

end Go.Proofs.Qxb6600598aMods
