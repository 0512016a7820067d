/- The walk of FnKeysIDWhole. -/
import Derived.Test.Qxb6003653aModsWholeParts
import Derived.Deep.DeepCutAuto
import Derived.Deep.CutBlock
import Derived.Deep.QuietTactic
import Derived.BigQuiet
namespace Go.Proofs.Qxb6003653aMods
open Go.RowKit Go.Maps
open Go.WideMaps (keyOf_string_mk)

set_option maxHeartbeats 1000000 in
set_option maxRecDepth 100000 in
theorem whole_walk (mo : Option Nat) (N : Nat) (lk : ByteArray → Int) (okf : ByteArray → Bool) (ao : Option Addr) (n cap : Nat) (S : Nat → ByteArray) (s : ByteArray) (w : World)
    (hlen : ∀ ty, (Builtin.len_ #[33] ty #[.map mo]).run Trym.prog w = .ok (.int .i64 N) w)
    (hlook : ∀ x, x.size ≤ maxLen → (Instr.lookup 33 (.map mo) (.string x) true).run Trym.prog w = .ok (.tuple #[.int .u64 (lk x), .bool (okf x)]) w)
    (hmo : mo = none → N = 0) (hN : N ≤ maxLen) (hn : n ≤ maxLen) (hao : ao = none → n = 0)
    (hcell : ∀ i, i < n → ∃ ad, ao = some ad ∧ w.cell? (ad.add i) = some (.string (S i)) ∧ (S i).size ≤ maxLen) (hs : s.size ≤ maxLen) :
    Calls Trym.prog 5 #[.map mo, .slice ao n cap, .string s] w fun e w' => e = .returned (.bool true) ∧ Below w.heap.size w w' := by
  have HLK : Hid (∀ x, x.size ≤ maxLen → (Instr.lookup 33 (.map mo) (.string x) true).run Trym.prog w = .ok (.tuple #[.int .u64 (lk x), .bool (okf x)]) w) := hlook
  have HMO : Hid (mo = none → N = 0) := hmo
  have HAO : Hid (ao = none → n = 0) := hao
  have HC : Hid (∀ i, i < n → ∃ ad, ao = some ad ∧ w.cell? (ad.add i) = some (.string (S i)) ∧ (S i).size ≤ maxLen) := hcell
  clear hlook hmo hao hcell
  have mk33 := make33
  have qm : ∀ (w : World) (r : Option Nat), (binOp .neq 33 (.map r) (.map none)).run Trym.prog w = .ok (.bool (!r.isNone)) w := fun w r => run_neq_map_nil w _ _ _ r Trym.underlying33
  have qs : ∀ (w : World) (a : Option Addr) (n c : Nat), (binOp .neq 34 (.slice a n c) (.slice none 0 0)).run Trym.prog w = .ok (.bool (!a.isNone)) w := fun w a n c => run_neq_slice_nil_any w _ _ a n c 0 0 Trym.underlying34
  unfold maxLen at hN hn hs
  by_cases h1 : (65536 : Int) < n
  · go_enter Trym.func5, Trym.ntmps5
    go_wp2
    go_ret
    exact ⟨rfl, Below.refl _ _⟩
  by_cases h2 : (65536 : Int) < N
  · go_enter Trym.func5, Trym.ntmps5
    go_wp2
    go_ret
    exact ⟨rfl, Below.refl _ _⟩
  by_cases h3 : (1048576 : Int) < s.size
  · go_enter Trym.func5, Trym.ntmps5
    go_wp2
    go_ret
    exact ⟨rfl, Below.refl _ _⟩
  go_enter Trym.func5, Trym.ntmps5
  go_wp2
  · go_ret
    exact ⟨rfl, Below.refl _ _⟩
  go_loop [7, 51] (fun tt i => ∃ (k : Nat) (T : Int), k ≤ n ∧ i = .int .i64 k ∧ tt = .int .i64 T) (fun _ i => n - (intOf i).toNat)
  case atStart => exact ⟨0, _, Nat.zero_le _, rfl, rfl⟩
  case round =>
    obtain ⟨k, T, hk, rfl, rfl⟩ := hrel
    by_cases hlt : k < n
    · obtain ⟨ad, rfl, hcx, hsx⟩ := HC.out k hlt
      unfold maxLen at hsx
      clear HC HLK HMO HAO
      go_wp2
      · go_ret
        exact ⟨rfl, Below.refl _ _⟩
      · go_round
        case rel => exact ⟨k + 1, _, by omega, by go_num, rfl⟩
        case measure => simp [intOf]; omega
    · by_cases hNn : N = n
      · have e0 : n = N := hNn.symm
        subst e0
        clear hNn
        go_wp2
        clear hlt hk
        go_loop [71] (fun i => ∃ k : Nat, k ≤ n ∧ i = .int .i64 k ∧ ∀ j, j < k → okf (S j) = true ∧ lk (S j) = j) (fun i => n - (intOf i).toNat)
        case atStart => exact ⟨0, Nat.zero_le _, rfl, fun j hj => by omega⟩
        case round =>
          obtain ⟨k, hk, rfl, hall⟩ := hrel
          have HALL : Hid (∀ j, j < k → okf (S j) = true ∧ lk (S j) = j) := hall
          clear hall
          by_cases hlt : k < n
          · obtain ⟨ad, rfl, hcx, hsx⟩ := HC.out k hlt
            have hl := HLK.out (S k) hsx
            clear HC HLK HMO HAO
            by_cases hok : okf (S k) = true
            · by_cases hv : lk (S k) = k
              · have hvb : (lk (S k) != (k : Int)) = false := by rw [hv]; simp
                have HV : Hid (lk (S k) = k) := hv
                clear hv
                have HOK : Hid (okf (S k) = true) := hok
                go_wp2
                go_round
                case rel =>
                  refine ⟨k + 1, by omega, by go_num, fun j hj => ?_⟩
                  by_cases e : j = k
                  · subst e; exact ⟨HOK.out, HV.out⟩
                  · exact HALL.out j (by omega)
                case measure => simp [intOf]; omega
              · have hvb : (lk (S k) != (k : Int)) = true := by rw [bne_iff_ne]; exact hv
                go_wp2
                go_ret
                exact ⟨rfl, Below.refl _ _⟩
            · have hok' : okf (S k) = false := by simpa using hok
              go_wp2
              go_ret
              exact ⟨rfl, Below.refl _ _⟩
          · obtain rfl : k = n := by omega
            have HJ : Hid (∀ j, j < k → lk (S j) = j) := fun j hj => (HALL.out j hj).2
            clear HALL HLK hlt
            go_upto_if 93 with fail
            go_cut [12] (fun m wr => ∃ mo2, m = .map mo2 ∧ MapPart wr (fun b => b < w.heap.size) (nm S k) mo2 ∧ Below w.heap.size w wr)
            case first =>
              cases mo with
              | none =>
                have h0 := HMO.out rfl
                subst h0
                go_wp2_with fail
                go_meet
                case rel => exact ⟨none, rfl, rfl, Below.refl _ _⟩
              | some b0 =>
                go_wp2
                go_loopw [99] (fun i wr => ∃ j : Nat, j ≤ k ∧ i = .int .i64 j ∧ (∃ D, wr.ownsMap Trym.prog 9 (plainElem Trym.prog 35) w.heap.size j D ∧ View D (nm S j)) ∧ Below w.heap.size w wr) (fun i _ => k - (intOf i).toNat)
                case atStart => exact ⟨0, Nat.zero_le _, rfl, ⟨_, World.ownsMap_made _ _ _ _, View.nil⟩, (Below.refl _ _).alloc (Nat.le_refl _) _⟩
                case round =>
                  obtain ⟨j, hj, rfl, ⟨D, hown, hV⟩, hnx⟩ := hrel
                  by_cases hlt : j < k
                  · obtain ⟨ad, rfl, hcx, hsx⟩ := HC.out j hlt
                    have hcx' := (hnx.cell (cell_lt hcx)).trans hcx
                    have hkey := keyOf_string_mk (s := S j) Trym.underlying9 hsx
                    clear HC HAO hcx
                    go_wp2_with (first
                      | (at_mapUpdate; refine wpList_mapUpdate_own _ rfl _ _ _ 33 rfl 9 35 law9 Trym.underlying33 _ w.heap.size j _ rfl hown (by unfold maxLen; omega) _ _ _ rfl rfl hkey _ [] (plainElem_int Trym.underlying35 (wf_u64 (by omega))) ?_; intro w2 hown2 hg2)
                      | go_in)
                    go_roundw
                    case rel =>
                      have hV2 := hV.put (fresh_name HJ.out hlt)
                      rw [nm_length] at hV2
                      exact ⟨j + 1, by omega, by go_num, ⟨_, hown2, by rw [nm_succ]; exact hV2⟩, hnx.grown hg2 hnx.size (fun q hq => by cases hq; exact Nat.le_refl _)⟩
                    case measure => simp [intOf]; omega
                  · obtain rfl : j = k := by omega
                    go_wp2
                    go_meet
                    case rel => exact ⟨some w.heap.size, rfl, ⟨by simp, D, by rw [nm_length]; exact hown, hV⟩, hnx⟩
            case rest =>
              obtain ⟨mo2, rfl, hmap, hnx⟩ := hcut
              clear mk33 HMO hlen
              go_upto_if 111 with fail
              go_cut [14] (fun v wr => ∃ so c, v = .slice so k c ∧ RowPart wr (fun b => b < w.heap.size) (nm S k) (.slice so k c) ∧ MapPart wr (fun b => b < w.heap.size) (nm S k) mo2 ∧ Below w.heap.size w wr)
              case first =>
                cases ao with
                | none =>
                  have h0 := HAO.out rfl
                  subst h0
                  go_wp2_with fail
                  go_meet
                  case rel => exact ⟨none, 0, rfl, ⟨World.ownsRow_nil _ _ _ _, fun k e => by cases e⟩, hmap, hnx⟩
                | some ad =>
                  obtain ⟨i0, hi, hz0, hz1, hz2⟩ := info_parts info9
                  have hC2 : Hid (∀ i, i < k → ∃ ad', some ad = some ad' ∧ wc.cell? (ad'.add i) = some (.string (S i))) := fun i hi => by
                    obtain ⟨ad', e, hcx, _⟩ := HC.out i hi
                    exact ⟨ad', e, (hnx.cell (cell_lt hcx)).trans hcx⟩
                  have s0 := hnx.size
                  go_wp2_with (first
                    | (at_make; refine wpList_make_full _ rfl _ _ 34 rfl 0 9 i0 (.string ⟨#[]⟩) 1 Trym.underlying34 hi hz0 hz1 _ _ _ _ k rfl rfl rfl rfl (by rw [hz2]; omega) (by unfold maxLen; omega) (Nat.zero_le _) ?_; intro w1 hown1 hg1; obtain ⟨w2, hcp, hrow2, hbel2, hmap2⟩ := names_made (cap := cap) hmap hnx hown1 hg1 hC2.out)
                    | fail)
                  go_meet
                  case rel => exact ⟨_, _, rfl, hrow2, hmap2, hbel2⟩
              case rest =>
                obtain ⟨so, c, rfl, hrow, hmap, hnx⟩ := hcut
                clear qm qs HAO
                go_upto_block 6 with fail
                go_cut [15, 16] (fun wv fv wr => wv = .int .u64 (ix (nm S k) s) ∧ fv = .bool (inL (nm S k) s) ∧ wr = wc)
                case first =>
                  go_wp2
                  go_loop [123, 15, 16] (fun i wv fv => ∃ j : Nat, j ≤ k ∧ i = .int .i64 j ∧ wv = .int .u64 k ∧ fv = .bool false ∧ ∀ q, q < j → S q ≠ s) (fun i _ _ => k - (intOf i).toNat)
                  case atStart => exact ⟨0, Nat.zero_le _, rfl, rfl, rfl, fun q hq => by omega⟩
                  case round =>
                    obtain ⟨j, hj, rfl, rfl, rfl, hno⟩ := hrel
                    have HNO : Hid (∀ q, q < j → S q ≠ s) := hno
                    clear hno
                    by_cases hlt : j < k
                    · obtain ⟨ad, rfl, hcx, hsx⟩ := HC.out j hlt
                      have hcx' := (hnx.cell (cell_lt hcx)).trans hcx
                      clear HC hcx
                      go_wp2
                      · have he : S j = s := str_eq (by assumption)
                        go_meet
                        case rel => exact ⟨u64_eq (found_at HJ.out hlt he).1.symm, congrArg Value.bool (found_at HJ.out hlt he).2.symm, rfl⟩
                      · have he : S j ≠ s := str_ne (by assumption)
                        go_round
                        case rel =>
                          refine ⟨j + 1, by omega, by go_num, rfl, rfl, fun q hq => ?_⟩
                          by_cases e : q = j
                          · rw [e]; exact he
                          · exact HNO.out q (by omega)
                        case measure => simp [intOf]; omega
                    · obtain rfl : j = k := by omega
                      go_wp2
                      go_meet
                      case rel => exact ⟨u64_eq (found_not HNO.out).1.symm, congrArg Value.bool (found_not HNO.out).2.symm, rfl⟩
                case rest =>
                  obtain ⟨rfl, rfl, hwc⟩ := hcut
                  rw [hwc]
                  clear hwc
                  have s0 := hnx.size
                  have hS : ∀ i, i < k → (S i).size ≤ maxLen := fun i hi => by
                    obtain ⟨_, _, _, h⟩ := HC.out i hi
                    exact h
                  have HS : Hid (∀ i, i < k → (S i).size ≤ maxLen) := hS
                  clear hS HJ
                  go_wp2_with fail
                  refine (make13 mo2 so k c _).mono ?_
                  rintro e w1 ⟨rfl, rfl⟩
                  have hK1 := keys_made (nm_length S k) (fun b hb => Nat.lt_of_lt_of_le hb s0) hrow hmap
                  have hB1 := hnx.alloc s0 (.cells #[.map mo2, .slice so k c] 45)
                  generalize wc.alloc (.cells #[.map mo2, .slice so k c] 45) = w1 at hK1 hB1 ⊢
                  go_wp2_with fail
                  refine (id14 _ hK1 (fun b hb => Nat.lt_of_lt_of_le hb hB1.size) (by omega) (by rw [nm_length]; omega)).mono ?_
                  rintro e w2 ⟨rfl, hK2, hk2⟩
                  have hB2 := hB1.trans (hk2.below (fun b hb => hb))
                  clear hK1 hk2
                  go_wp2_with fail
                  refine (id14_again _ hK2 (fun b hb => Nat.lt_of_lt_of_le hb hB2.size) (by omega) (by rw [nm_length]; omega)).mono ?_
                  rintro e w3 ⟨rfl, hK3, hk3⟩
                  have hB3 := hB2.trans (hk3.below (fun b hb => hb))
                  obtain ⟨bm, g, cap3, m, R, c0, c1, hcg, hml, hlk, hRS, hyes, hno⟩ := whole_open hK3 HS.out (by unfold maxLen; omega)
                  have HCG : Hid (∀ i, i < m → w3.cell? ⟨g, i, none⟩ = some (.string (R i))) := hcg
                  have hml3 : ∀ ty, (Builtin.len_ #[33] ty #[.map (some bm)]).run Trym.prog w3 = .ok (.int .i64 m) w3 := fun ty => hml ty w3 rfl
                  have HL : Hid (∀ i, i < m → ∀ W : World, W.heap = w3.heap → (Instr.lookup 33 (.map (some bm)) (.string (R i)) true).run Trym.prog W = .ok (.tuple #[.int .u64 i, .bool true]) W) := hlk
                  have HRS : Hid (∀ i, i < k → R i = S i) := hRS
                  have HC3 : Hid (∀ i, i < k → ∃ ad, ao = some ad ∧ w3.cell? (ad.add i) = some (.string (S i))) := fun i hi => by
                    obtain ⟨ad, e, h, _⟩ := HC.out i hi
                    exact ⟨ad, e, (hB3.cell (cell_lt h)).trans h⟩
                  clear hcg hml hlk hRS hK3 hk3 hK2 HC hrow hmap hnx hB1 hB2 HS
                  by_cases hin : s ∈ nm S k
                  · have em := (hyes hin).symm
                    subst em
                    rw [inL_iff.2 hin]
                    clear hyes hno hin
                    go_wp2_with fail
                    refine (names15 _ _ _ _ _ c1).mono ?_
                    rintro e w4 ⟨rfl, hw4⟩
                    rw [hw4]
                    clear hw4 w4
                    go_wp2_with fail
                    refine (ids16 _ _ _ c0).mono ?_
                    rintro e w4 ⟨rfl, hw4⟩
                    rw [hw4]
                    clear hw4 w4 c0 c1
                    go_wp2
                    clear hml3
                    go_loopw [172] (fun i wr => ∃ j : Nat, j ≤ k ∧ i = .int .i64 j ∧ ∃ q, wr = w3.drewN q) (fun i _ => k - (intOf i).toNat)
                    case atStart => exact ⟨0, Nat.zero_le _, rfl, 0, rfl⟩
                    case round =>
                      obtain ⟨j, hj, rfl, q, rfl⟩ := hrel
                      by_cases hlt : j < k
                      · obtain ⟨ad, rfl, hcx⟩ := HC3.out j hlt
                        have hcn := HCG.out j (by omega)
                        rw [HRS.out j hlt] at hcn
                        clear HC3 HCG HL HRS
                        go_wp2
                        go_quiet (fail)
                        go_wp2
                        go_roundw
                        case rel => exact ⟨j + 1, by omega, by go_num, _, rfl⟩
                        case measure => simp [intOf]; omega
                      · clear HC3 HRS
                        go_wp2
                        go_loop [198] (fun i => ∃ j : Nat, j ≤ k ∧ i = .int .i64 j) (fun i => k - (intOf i).toNat)
                        case atStart => exact ⟨0, Nat.zero_le _, rfl⟩
                        case round =>
                          obtain ⟨j2, hj2, rfl⟩ := hrel
                          by_cases hlt2 : j2 < k
                          · have hcn := HCG.out j2 hlt2
                            have hl := HL.out j2 hlt2 (w3.drewN q) rfl
                            clear HCG HL
                            go_wp2
                            go_round
                            case rel => exact ⟨j2 + 1, by omega, by go_num⟩
                            case measure => simp [intOf]; omega
                          · clear HCG HL
                            go_wp2
                            go_ret
                            exact ⟨rfl, below_drewN hB3 _⟩
                  · obtain ⟨em, hRk⟩ := hno hin
                    subst em
                    have HRK : Hid (R k = s) := hRk
                    rw [inL_false.2 hin]
                    clear hyes hno hin hRk
                    go_wp2_with fail
                    refine (names15 _ _ _ _ _ c1).mono ?_
                    rintro e w4 ⟨rfl, hw4⟩
                    rw [hw4]
                    clear hw4 w4
                    go_wp2_with fail
                    refine (ids16 _ _ _ c0).mono ?_
                    rintro e w4 ⟨rfl, hw4⟩
                    rw [hw4]
                    clear hw4 w4 c0 c1
                    go_wp2
                    clear hml3
                    go_loopw [172] (fun i wr => ∃ j : Nat, j ≤ k ∧ i = .int .i64 j ∧ ∃ q, wr = w3.drewN q) (fun i _ => k - (intOf i).toNat)
                    case atStart => exact ⟨0, Nat.zero_le _, rfl, 0, rfl⟩
                    case round =>
                      obtain ⟨j, hj, rfl, q, rfl⟩ := hrel
                      by_cases hlt : j < k
                      · obtain ⟨ad, rfl, hcx⟩ := HC3.out j hlt
                        have hcn := HCG.out j (by omega)
                        rw [HRS.out j hlt] at hcn
                        clear HC3 HCG HL HRS HRK
                        go_wp2
                        go_quiet (fail)
                        go_wp2
                        go_roundw
                        case rel => exact ⟨j + 1, by omega, by go_num, _, rfl⟩
                        case measure => simp [intOf]; omega
                      · clear HC3 HRS
                        have hck := HCG.out k (by omega)
                        rw [HRK.out] at hck
                        go_wp2
                        go_loop [198] (fun i => ∃ j : Nat, j ≤ k + 1 ∧ i = .int .i64 j) (fun i => k + 1 - (intOf i).toNat)
                        case atStart => exact ⟨0, Nat.zero_le _, rfl⟩
                        case round =>
                          obtain ⟨j2, hj2, rfl⟩ := hrel
                          by_cases hlt2 : j2 < k + 1
                          · have hcn := HCG.out j2 hlt2
                            have hl := HL.out j2 hlt2 (w3.drewN q) rfl
                            clear HCG HL
                            go_wp2
                            go_round
                            case rel => exact ⟨j2 + 1, by omega, by go_num⟩
                            case measure => simp [intOf]; omega
                          · clear HCG HL
                            go_wp2
                            go_ret
                            exact ⟨rfl, below_drewN hB3 _⟩
      · have hNe : (((N : Int) != (n : Int))) = true := by rw [bne_iff_ne]; omega
        go_wp2
        go_ret
        exact ⟨rfl, Below.refl _ _⟩

end Go.Proofs.Qxb6003653aMods
