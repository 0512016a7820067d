/- The walk of FnSkipThenPositionsAppends. -/
import Derived.Test.Qxb6600598aModsAppParts
namespace Go.Proofs.Qxb6600598aMods
open Go.RowKit

theorem tuck {p : Prop} (h : p) : Hid p := h

set_option maxHeartbeats 4000000 in
set_option maxRecDepth 100000 in
theorem app_walk (m : Int) (lo po : Option Addr) (ln lc pn pc : Nat) (Z P : Nat → Int) (w : World) (hln : ln ≤ maxLen) (hpn : pn ≤ maxLen) (hcl : lo = none → lc = 0) (hcp : po = none → pc = 0)
    (hR : Reads w .i32 lo ln Z) (hP : Reads w .i64 po pn P) (hZ : ∀ i, i < ln → -2147483648 ≤ Z i ∧ Z i ≤ 2147483647) (hPb : ∀ i, i < pn → -9223372036854775808 ≤ P i ∧ P i ≤ 9223372036854775807) :
    Calls Trym.prog 3 #[.int .i32 m, .slice lo ln lc, .slice po pn pc] w fun e w' => e = .returned (.bool true) ∧ Below w.heap.size w w' := by
  have HN := tuck (And.intro hln hpn)
  have HCL := tuck hcl
  have HCP := tuck hcp
  have HR := tuck hR
  have HP := tuck hP
  have HZ := tuck hZ
  have HPB := tuck hPb
  clear hcl hcp hR hP hZ hPb
  unfold maxLen at hln hpn
  go_enter Trym.func3, Trym.ntmps3
  go_wp2_with fail
  refine (bytes6 lo po ln lc pn pc m _ HN.out.1 HN.out.2).mono ?_
  rintro e w1 ⟨b, rfl, hw1⟩
  rw [hw1]
  clear hw1 w1
  cases b with
  | false =>
    go_wp2
    go_ret
    exact ⟨rfl, Below.refl _ _⟩
  | true =>
    by_cases h1 : (65536 : Int) < ln
    · go_wp2
      go_ret
      exact ⟨rfl, Below.refl _ _⟩
    by_cases h2 : (65536 : Int) < pn
    · go_wp2
      go_ret
      exact ⟨rfl, Below.refl _ _⟩
    have h1' : ln ≤ 65536 := by omega
    have h2' : pn ≤ 65536 := by omega
    go_wp2_with fail
    refine (true7 _).mono ?_
    rintro e w1 ⟨rfl, hw1⟩
    rw [hw1]
    clear hw1 w1
    go_wp2_with fail
    refine (range8 lo po ln lc pn pc Z P _ (by omega) (by omega) HR.out HP.out HZ.out HPB.out).mono ?_
    rintro e w1 ⟨b, rfl, hw1, hrng⟩
    rw [hw1]
    clear hw1 w1
    cases b with
    | false =>
      go_wp2
      go_ret
      exact ⟨rfl, Below.refl _ _⟩
    | true =>
      have HE := tuck (app_bounds HZ.out (hrng rfl))
      clear hrng HPB
      go_wp2_with fail
      refine (clone9 lo ln lc Z _ (by omega) HCL.out HR.out).mono ?_
      rintro e w1 ⟨s1, c1, rfl, hown1, _, hb1⟩
      go_wp2_with fail
      refine (clone10 po pn pc P _ (by omega) HCP.out (HP.out.all hb1)).mono ?_
      rintro e w2 ⟨s2, c2, rfl, hown2, _, hb2⟩
      go_wp2_with fail
      refine (clone9 s1 ln c1 Z _ (by omega) (none_cap hown1) ((reads_of_owns hown1).all hb2)).mono ?_
      rintro e w3 ⟨s3, c3, rfl, hown3, _, hb3⟩
      clear HCL HCP HR HP HN
      go_wp2_with fail
      have hp3 := heap_alloc_new w3 (.cells #[.int .i32 m, .int .i64 0, .slice none 0 0, .slice s1 ln c1] 35)
      have hba := (Below.refl w3.heap.size w3).alloc (Nat.le_refl _) (.cells #[.int .i32 m, .int .i64 0, .slice none 0 0, .slice s1 ln c1] 35)
      refine (pos11 (cellAt hp3 3 rfl) ((((reads_of_owns hown1).all hb2).all hb3).all hba) (by omega) HZ.out).mono ?_
      rintro e w5 ⟨rfl, hown5, hb5⟩
      rw [World.size_alloc] at hown5 hb5 ⊢
      obtain ⟨hS0, ⟨hR2, hO2⟩, ⟨hR3, hO3⟩, ⟨hRb, hOb⟩, hBw, hOw⟩ := app_start (P := P) hown1 hb1 hown2 hb2 hown3 hb3 hown5 hb5
      clear hown1 hown2 hown3 hown5 hb1 hb2 hb3 hb5 hp3 hba
      have hO5 : ∀ k, Oset w5 w3.heap.size (.slice s1 ln c1) k → k < w5.heap.size := fun k hk => hk.1
      generalize Oset w5 w3.heap.size (.slice s1 ln c1) = O at *
      generalize w3.heap.size = p at *
      have HS0 := tuck hS0
      have HR2 := tuck (And.intro hR2 hO2)
      have HR3 := tuck (And.intro hR3 hO3)
      have HRb := tuck (And.intro hRb hOb)
      have HBw := tuck (And.intro hBw hOw)
      have HO5 := tuck hO5
      clear hS0 hR2 hO2 hR3 hO3 hRb hOb hBw hOw hO5
      go_wp2
      go_loopw [10] (fun iv wr => ∃ k : Nat, k ≤ pn ∧ iv = .int .i64 k ∧ Snap wr O p (md m k) (.int .i64 0) (.slice none 0 0) (app Z ln P) (ln + k) ∧ Kept O w5 wr) (fun iv _ => pn - (intOf iv).toNat)
      case atStart => exact ⟨0, Nat.zero_le _, rfl, HS0.out, Kept.refl _ _⟩
      case round =>
        clear HS0
        obtain ⟨k, hk, rfl, hS, hkp⟩ := hrel
        by_cases hlt : k < pn
        · obtain ⟨ad, rfl, hcp⟩ := (HR2.out.1.kept hkp HR2.out.2).2 k hlt
          obtain ⟨x0, x1⟩ := HE.out (ln + k) (by omega)
          obtain ⟨y0, y1⟩ := HE.out 0 (by omega)
          have hO : ∀ b, O b → b < wr.heap.size := fun b hb => Nat.lt_of_lt_of_le (HO5.out b hb) hkp.size
          clear HR2 HR3 HRb HBw HO5 HE HZ
          go_wp2_with fail
          refine (skip12 hS hO (app_new Z P ln k) y0 y1 x0 x1 (by omega)).mono ?_
          rintro e w6 ⟨rfl, hS6, hk6⟩
          have hkp6 := hkp.trans hk6
          clear hS hk6 hcp hkp hO
          go_wp2
          go_roundw
          case rel => exact ⟨k + 1, by omega, by go_num, by rw [md_succ]; exact hS6, hkp6⟩
          case measure => simp [intOf]; omega
        · obtain rfl : k = pn := by omega
          obtain ⟨so, c5, d0, _, _, d3, hRt⟩ := hS.parts
          go_wp2_with fail
          refine (pos11 d3 hRt (by omega) HE.out).mono ?_
          rintro e w7 ⟨rfl, hown7, hb7⟩
          have d0' : w7.cell? ⟨p, 0, none⟩ = some (.int .i32 (md m k)) := (hb7.cell (p := ⟨p, 0, none⟩) (cell_lt d0)).trans d0
          have d3' : w7.cell? ⟨p, 3, none⟩ = some (.slice so (ln + k) c5) := (hb7.cell (p := ⟨p, 3, none⟩) (cell_lt d3)).trans d3
          have HRt := tuck (hRt.all hb7)
          have HA := tuck (reads_of_owns hown7)
          have HP7 := tuck ((HR2.out.1.kept hkp HR2.out.2).all hb7)
          have HS7 := tuck ((HR3.out.1.kept hkp HR3.out.2).all hb7)
          have HB7 := tuck ((HRb.out.1.kept hkp (fun a e _ => by injection e with e; subst e; exact HRb.out.2)).all hb7)
          have HBf : Hid (Below w.heap.size w w7) := (HBw.out.1.trans (hkp.below HBw.out.2)).trans (hb7.mono (Nat.le_trans HBw.out.1.size hkp.size))
          clear hS hRt hkp hown7 hb7 d0 d3 HR2 HR3 HRb HBw HO5 HE HZ
          generalize wr.heap.size = g at *
          go_wp2
          go_loopw [12] (fun iv w' => ∃ j : Nat, j ≤ ln ∧ iv = .int .i64 j ∧ ∃ q, w' = w7.drewN q) (fun iv _ => ln - (intOf iv).toNat)
          case atStart => exact ⟨0, Nat.zero_le _, rfl, 0, rfl⟩
          case round =>
            obtain ⟨j, hj, rfl, q, rfl⟩ := hrel
            by_cases hjl : j < ln
            · have hc1 := HA.out.at0 j (by omega)
              rw [pos_old hjl] at hc1
              have hc2 := HB7.out.at0 j hjl
              clear HRt HA HP7 HS7 HB7 HBf
              go_wp2
              go_quiet (fail)
              go_wp2
              go_roundw
              case rel => exact ⟨j + 1, by omega, by go_num, _, rfl⟩
              case measure => simp [intOf]; omega
            · go_wp2
              clear hj hjl
              go_loopw [13] (fun iv w' => ∃ i : Nat, i ≤ k ∧ iv = .int .i64 i ∧ ∃ q, w' = w7.drewN q) (fun iv _ => k - (intOf iv).toNat)
              case atStart => exact ⟨0, Nat.zero_le _, rfl, q, rfl⟩
              case round =>
                obtain ⟨i, hi, rfl, q2, rfl⟩ := hrel
                by_cases hil : i < k
                · have hc1 := HA.out.at0 (ln + i) (by omega)
                  rw [pos_new] at hc1
                  obtain ⟨ad2, rfl, hc2⟩ := HP7.out.2 i hil
                  clear HRt HA HP7 HS7 HB7 HBf
                  go_wp2
                  go_quiet (fail)
                  go_wp2
                  go_roundw
                  case rel => exact ⟨i + 1, by omega, by go_num, _, rfl⟩
                  case measure => simp [intOf]; omega
                · go_wp2
                  clear hi hil
                  go_loopw [14] (fun iv w' => ∃ i : Nat, i ≤ ln ∧ iv = .int .i64 i ∧ ∃ q, w' = w7.drewN q) (fun iv _ => ln - (intOf iv).toNat)
                  case atStart => exact ⟨0, Nat.zero_le _, rfl, q2, rfl⟩
                  case round =>
                    obtain ⟨i, hi, rfl, q3, rfl⟩ := hrel
                    by_cases hil : i < ln
                    · obtain ⟨ad1, rfl, hc1⟩ := HRt.out.2 i (by omega)
                      rw [app_old hil] at hc1
                      obtain ⟨ad2, rfl, hc2⟩ := HS7.out.2 i hil
                      clear HRt HA HP7 HS7 HB7 HBf
                      go_wp2
                      go_quiet (fail)
                      go_wp2
                      go_roundw
                      case rel => exact ⟨i + 1, by omega, by go_num, _, rfl⟩
                      case measure => simp [intOf]; omega
                    · clear HRt HA HP7 HS7 HB7
                      by_cases h0 : k = 0
                      · subst h0
                        have hm : md m 0 = m := rfl
                        go_wp2
                        go_ret
                        exact ⟨rfl, below_drewN HBf.out _⟩
                      · have hm : md m k = 1 := by simp [md, h0]
                        have h0' : (0 : Int) < k := by omega
                        go_wp2
                        go_ret
                        exact ⟨rfl, below_drewN HBf.out _⟩

end Go.Proofs.Qxb6600598aMods
