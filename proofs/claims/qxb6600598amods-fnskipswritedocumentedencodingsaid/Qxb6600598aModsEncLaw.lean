/- The walk of FnSkipsWriteDocumentedEncoding. -/
import Derived.Test.Qxb6600598aModsEncode
namespace Go.Proofs.Qxb6600598aMods
open Go.RowKit

theorem enc_bounds {Z P : Nat → Int} {n : Nat} (h : InRange Z 0 P n) : ∀ i, i < n → (-2147483648 ≤ enc P i ∧ enc P i ≤ 2147483647) ∧ -4294967296 ≤ P i ∧ P i ≤ 4294967296 := by
  intro i hi
  rcases h with h | ⟨base, hb, b0, b1, ha⟩
  · omega
  · rw [if_pos rfl] at hb
    have h1 := ha i hi
    have h2 := ha 0 (by omega)
    unfold enc
    split <;> omega

set_option maxHeartbeats 4000000 in
set_option maxRecDepth 100000 in
theorem enc_walk (ao bo : Option Addr) (n cap nb cb : Nat) (x : Int) (P Y : Nat → Int) (w : World) (hn : n ≤ maxLen) (hnb : nb ≤ maxLen) (hca : ao = none → cap = 0) (hcb : bo = none → cb = 0)
    (hR : Reads w .i64 ao n P) (hY : Reads w .u8 bo nb Y) (hP : ∀ i, i < n → -9223372036854775808 ≤ P i ∧ P i ≤ 9223372036854775807) :
    Calls Trym.prog 4 #[.slice ao n cap, .int .i64 x, .slice bo nb cb] w fun e w' => e = .returned (.bool true) ∧ Below w.heap.size w w' := by
  have HN : Hid (n ≤ maxLen ∧ nb ≤ maxLen) := ⟨hn, hnb⟩
  have HCA : Hid (ao = none → cap = 0) := hca
  have HCB : Hid (bo = none → cb = 0) := hcb
  have HR : Hid (Reads w .i64 ao n P) := hR
  have HY : Hid (Reads w .u8 bo nb Y) := hY
  have HPB : Hid (∀ i, i < n → -9223372036854775808 ≤ P i ∧ P i ≤ 9223372036854775807) := hP
  clear hca hcb hR hY hP
  have qn := eql_nil 31 5 Trym.underlying31
  unfold maxLen at hn hnb
  go_enter Trym.func4, Trym.ntmps4
  go_wp2_with fail
  refine (bytes13 ao bo n cap nb cb x _ HN.out.1 HN.out.2).mono ?_
  rintro e w1 ⟨b, rfl, hw1⟩
  rw [hw1]
  clear hw1 w1
  cases b with
  | false =>
    go_wp2
    go_ret
    exact ⟨rfl, Below.refl _ _⟩
  | true =>
    by_cases h1 : (65536 : Int) < n
    · go_wp2
      go_ret
      exact ⟨rfl, Below.refl _ _⟩
    by_cases h2 : (65536 : Int) < nb
    · go_wp2
      go_ret
      exact ⟨rfl, Below.refl _ _⟩
    have h1' : n ≤ 65536 := by omega
    have h2' : nb ≤ 65536 := by omega
    go_wp2_with fail
    refine (true7 _).mono ?_
    rintro e w1 ⟨rfl, hw1⟩
    rw [hw1]
    clear hw1 w1
    go_wp2_with fail
    refine (range8 none ao 0 0 n cap (fun _ => 0) P _ (by omega) (by omega) ⟨fun _ => rfl, fun i hi => by omega⟩ HR.out (fun i hi => by omega) HPB.out).mono ?_
    rintro e w1 ⟨b, rfl, hw1, hrng⟩
    rw [hw1]
    clear hw1 w1
    cases b with
    | false =>
      go_wp2
      go_ret
      exact ⟨rfl, Below.refl _ _⟩
    | true =>
      have HE : Hid (∀ i, i < n → (-2147483648 ≤ enc P i ∧ enc P i ≤ 2147483647) ∧ -4294967296 ≤ P i ∧ P i ≤ 4294967296) := enc_bounds (hrng rfl)
      clear hrng HPB
      go_wp2_with fail
      refine (clone10 ao n cap P _ (by omega) HCA.out HR.out).mono ?_
      rintro e w1 ⟨s1, c1, rfl, hown1, _, hb1⟩
      go_wp2_with fail
      refine (clone14 bo nb cb Y _ (by omega) HCB.out (HY.out.all hb1)).mono ?_
      rintro e w2 ⟨s2, c2, rfl, hown2, _, hb2⟩
      go_wp2_with fail
      refine (clone14 s2 nb c2 Y _ (by omega) (none_cap hown2) (reads_of_owns hown2)).mono ?_
      rintro e w3 ⟨s3, c3, rfl, hown3, hnil, hb3⟩
      have hnilb : s3.isNone = s2.isNone := by cases s3 <;> cases s2 <;> simp_all
      have HB3 : Hid (Below w.heap.size w w3) := (hb1.trans (hb2.mono hb1.size)).trans (hb3.mono (Nat.le_trans hb1.size hb2.size))
      have HR3 : Hid (Reads w3 .i64 s1 n P) := ((reads_of_owns hown1).all hb2).all hb3
      have HY2 : Hid (Reads w3 .u8 s2 nb Y) := (reads_of_owns hown2).all hb3
      have HY3 : Hid (Reads w3 .u8 s3 nb Y) := reads_of_owns hown3
      clear hown1 hown2 hown3 hnil hb1 hb2 hb3 HR HY HCA HCB HN
      go_wp2
      go_loopw [8] (fun iv wr => ∃ k : Nat, k ≤ n ∧ iv = .int .i64 k ∧ Snap wr (fun b => b < w3.heap.size) w3.heap.size (md 0 k) (.int .i64 x) (.slice s3 nb c3) (enc P) k ∧ Below w3.heap.size w3 wr) (fun iv _ => n - (intOf iv).toNat)
      case atStart => exact ⟨0, Nat.zero_le _, rfl, snap_new, (Below.refl _ _).alloc (Nat.le_refl _) _⟩
      case round =>
        obtain ⟨k, hk, rfl, hS, hb⟩ := hrel
        by_cases hlt : k < n
        · obtain ⟨ad, rfl, hcp⟩ := (HR3.out.all hb).2 k hlt
          obtain ⟨⟨x0, x1⟩, _⟩ := HE.out k hlt
          obtain ⟨⟨y0, y1⟩, _⟩ := HE.out 0 (by omega)
          clear HR3 HE HB3 HY2 HY3
          go_wp2_with fail
          refine (skip12 hS (fun b hb' => Nat.lt_of_lt_of_le hb' hb.size) (enc_back P k) y0 y1 x0 x1 (by omega)).mono ?_
          rintro e w5 ⟨rfl, hS5, hk5⟩
          have hb5 := hb.trans (hk5.below (fun b hb' => hb'))
          clear hS hk5 hcp hb
          go_wp2
          go_roundw
          case rel => exact ⟨k + 1, by omega, by go_num, by rw [md_succ]; exact hS5, hb5⟩
          case measure => simp [intOf]; omega
        · obtain rfl : k = n := by omega
          go_wp2_with fail
          refine (enc15 (HR3.out.all hb) (by omega) HE.out).mono ?_
          rintro e w5 ⟨rfl, hown5, hb5⟩
          have hS5 := hS.keep (fun b hb' _ => hb5.block b hb')
          obtain ⟨so, c5, d0, d1, d2, d3, hRt⟩ := hS5.parts
          have hb45 := hb.trans (hb5.mono hb.size)
          have HRt : Hid (Reads w5 .i32 so k (enc P)) := hRt
          have HW : Hid (Reads w5 .i32 (some ⟨wr.heap.size, 0, none⟩) k (enc P)) := reads_of_owns hown5
          have HY2' : Hid (Reads w5 .u8 s2 nb Y) := HY2.out.all hb45
          have HY3' : Hid (Reads w5 .u8 s3 nb Y) := HY3.out.all hb45
          have HB5 : Hid (Below w.heap.size w w5) := HB3.out.trans (hb45.mono HB3.out.size)
          clear hS hRt HR3 HE HB3 hb hS5 hown5 hb5 hb45 HY2 HY3
          generalize wr.heap.size = g at *
          go_wp2
          go_loopw [10] (fun iv w' => ∃ j : Nat, j ≤ k ∧ iv = .int .i64 j ∧ ∃ q, w' = w5.drewN q) (fun iv _ => k - (intOf iv).toNat)
          case atStart => exact ⟨0, Nat.zero_le _, rfl, 0, rfl⟩
          case round =>
            obtain ⟨j, hj, rfl, q, rfl⟩ := hrel
            by_cases hjl : j < k
            · have hc1 := HW.out.at0 j hjl
              obtain ⟨ad2, rfl, hc2⟩ := HRt.out.2 j hjl
              clear HW HRt HY2' HY3'
              go_wp2
              go_quiet (fail)
              go_wp2
              go_roundw
              case rel => exact ⟨j + 1, by omega, by go_num, _, rfl⟩
              case measure => simp [intOf]; omega
            · clear HW HRt
              by_cases h0 : k = 0
              · subst h0
                have hm : md 0 0 = 0 := rfl
                go_wp2
                clear hnilb
                go_loopw [11] (fun iv w' => ∃ i : Nat, i ≤ nb ∧ iv = .int .i64 i ∧ ∃ q, w' = w5.drewN q) (fun iv _ => nb - (intOf iv).toNat)
                case atStart => exact ⟨0, Nat.zero_le _, rfl, q, rfl⟩
                case round =>
                  obtain ⟨i, hi, rfl, q2, rfl⟩ := hrel
                  by_cases hil : i < nb
                  · obtain ⟨ad1, rfl, hc1⟩ := HY2'.out.2 i hil
                    obtain ⟨ad2, rfl, hc2⟩ := HY3'.out.2 i hil
                    clear HY2' HY3'
                    go_wp2
                    go_quiet (fail)
                    go_wp2
                    go_roundw
                    case rel => exact ⟨i + 1, by omega, by go_num, _, rfl⟩
                    case measure => simp [intOf]; omega
                  · clear HY2' HY3'
                    go_wp2
                    go_ret
                    exact ⟨rfl, below_drewN HB5.out _⟩
              · have hm : md 0 k = 1 := by simp [md, h0]
                have h0' : (0 : Int) < k := by omega
                go_wp2
                clear hnilb
                go_loopw [11] (fun iv w' => ∃ i : Nat, i ≤ nb ∧ iv = .int .i64 i ∧ ∃ q, w' = w5.drewN q) (fun iv _ => nb - (intOf iv).toNat)
                case atStart => exact ⟨0, Nat.zero_le _, rfl, q, rfl⟩
                case round =>
                  obtain ⟨i, hi, rfl, q2, rfl⟩ := hrel
                  by_cases hil : i < nb
                  · obtain ⟨ad1, rfl, hc1⟩ := HY2'.out.2 i hil
                    obtain ⟨ad2, rfl, hc2⟩ := HY3'.out.2 i hil
                    clear HY2' HY3'
                    go_wp2
                    go_quiet (fail)
                    go_wp2
                    go_roundw
                    case rel => exact ⟨i + 1, by omega, by go_num, _, rfl⟩
                    case measure => simp [intOf]; omega
                  · clear HY2' HY3'
                    go_wp2
                    go_ret
                    exact ⟨rfl, below_drewN HB5.out _⟩

end Go.Proofs.Qxb6600598aMods
