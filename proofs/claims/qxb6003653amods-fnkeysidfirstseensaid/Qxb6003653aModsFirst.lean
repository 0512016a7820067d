/- The walk of FnKeysIDFirstSeen. -/
import Derived.Test.Qxb6003653aModsFirstParts
import Derived.Deep.DeepCutAuto
import Derived.Deep.CutBlock
import Derived.Deep.QuietTactic
import Derived.BigQuiet
namespace Go.Proofs.Qxb6003653aMods
open Go.RowKit Go.Maps

theorem tuck {p : Prop} (h : p) : Hid p := h

/-- What zzBytes_FnKeysIDFirstSeen ends in (behind a name: the walk does not look into it). -/
def BytesPost (S : Nat → ByteArray) (n : Nat) (w : World) (e : Ending) (w' : World) : Prop := ∃ b, e = .returned (.bool b) ∧ w' = w ∧ (b = true → ∀ i, i < n → (S i).size ≤ 1048576)

set_option maxHeartbeats 1000000 in
/-- zzBytes_FnKeysIDFirstSeen: where it says yes, no string is longer than 1<<20. -/
theorem bytes17 (ao : Option Addr) (n cap : Nat) (S : Nat → ByteArray) (w : World) (hn : n ≤ maxLen)
    (hcell : ∀ i, i < n → ∃ ad, ao = some ad ∧ w.cell? (ad.add i) = some (.string (S i)) ∧ (S i).size ≤ maxLen) :
    Calls Trym.prog 17 #[.slice ao n cap] w fun e w' => BytesPost S n w e w' := by
  have HC : Hid (∀ i, i < n → ∃ ad, ao = some ad ∧ w.cell? (ad.add i) = some (.string (S i)) ∧ (S i).size ≤ maxLen) := hcell
  clear hcell
  unfold maxLen at hn
  by_cases h1 : (1048576 : Int) < n
  · go_enter Trym.func17, Trym.ntmps17
    go_wp2
    go_ret
    exact ⟨false, rfl, rfl, fun h => by cases h⟩
  go_enter Trym.func17, Trym.ntmps17
  go_wp2
  go_loop [3, 4] (fun tt i => ∃ (k : Nat) (T : Int), k ≤ n ∧ i = .int .i64 k ∧ tt = .int .i64 T ∧ 0 ≤ T ∧ T ≤ 1048576 ∧ ∀ j, j < k → (S j).size ≤ 1048576) (fun _ i => n - (intOf i).toNat)
  case atStart => exact ⟨0, _, Nat.zero_le _, rfl, rfl, by omega, by omega, fun j hj => by omega⟩
  case round =>
    obtain ⟨k, T, hk, rfl, rfl, hT0, hT1, hall⟩ := hrel
    have HA : Hid (∀ j, j < k → (S j).size ≤ 1048576) := hall
    clear hall
    by_cases hlt : k < n
    · obtain ⟨ad, rfl, hcx, hsx⟩ := HC.out k hlt
      unfold maxLen at hsx
      clear HC
      by_cases hb : (1048576 : Int) < (S k).size
      · go_wp2
        go_ret
        exact ⟨false, rfl, rfl, fun h => by cases h⟩
      · go_wp2
        · go_ret
          exact ⟨false, rfl, rfl, fun h => by cases h⟩
        · go_round
          case rel =>
            refine ⟨k + 1, _, by omega, by go_num, rfl, by omega, by omega, fun j hj => ?_⟩
            by_cases e : j = k
            · subst e; omega
            · exact HA.out j (by omega)
          case measure => simp [intOf]; omega
    · obtain rfl : k = n := by omega
      go_wp2
      go_ret
      exact ⟨true, rfl, rfl, fun _ => HA.out⟩

set_option maxHeartbeats 4000000 in
set_option maxRecDepth 100000 in
theorem first_walk (ao : Option Addr) (n cap : Nat) (S : Nat → ByteArray) (w : World) (hn : n ≤ maxLen)
    (hcell : ∀ i, i < n → ∃ ad, ao = some ad ∧ w.cell? (ad.add i) = some (.string (S i)) ∧ (S i).size ≤ maxLen) :
    Calls Trym.prog 6 #[.slice ao n cap] w fun e w' => e = .returned (.bool true) ∧ Below w.heap.size w w' := by
  have HB : Hid (Calls Trym.prog 17 #[.slice ao n cap] w fun e w' => BytesPost S n w e w') := bytes17 ao n cap S w hn hcell
  have HC : Hid (∀ i, i < n → ∃ ad, ao = some ad ∧ w.cell? (ad.add i) = some (.string (S i))) := fun i hi => by
    obtain ⟨ad, e, h, _⟩ := hcell i hi
    exact ⟨ad, e, h⟩
  clear hcell
  unfold maxLen at hn
  go_enter Trym.func6, Trym.ntmps6
  go_wp2_with fail
  refine Calls.mono HB.out ?_
  clear HB
  rintro e w1 ⟨b, rfl, hw1, hsz⟩
  rw [hw1]
  clear hw1 w1
  cases b with
  | false =>
    go_wp2
    go_ret
    exact ⟨rfl, Below.refl _ _⟩
  | true =>
    have HZ : Hid (∀ i, i < n → (S i).size ≤ 1048576) := hsz rfl
    clear hsz
    by_cases h1 : (4096 : Int) < n
    · go_wp2
      go_ret
      exact ⟨rfl, Below.refl _ _⟩
    go_wp2
    go_loop [3, 28] (fun tt i => ∃ (k : Nat) (T : Int), k ≤ n ∧ i = .int .i64 k ∧ tt = .int .i64 T) (fun _ i => n - (intOf i).toNat)
    case atStart => exact ⟨0, _, Nat.zero_le _, rfl, rfl⟩
    case round =>
      obtain ⟨k, T, hk, rfl, rfl⟩ := hrel
      by_cases hlt : k < n
      · obtain ⟨ad, rfl, hcx⟩ := HC.out k hlt
        have hsx := HZ.out k hlt
        clear HC HZ
        go_wp2
        · go_ret
          exact ⟨rfl, Below.refl _ _⟩
        · go_round
          case rel => exact ⟨k + 1, _, by omega, by go_num, rfl⟩
          case measure => simp [intOf]; omega
      · go_wp2_with fail
        clear hlt hk
        refine (make13 none none 0 0 _).mono ?_
        rintro e w1 ⟨rfl, hw1⟩
        rw [hw1]
        clear hw1 w1
        obtain ⟨i0, hi, hz0, hz1, hz2⟩ := info_parts info9
        go_wp2_with (first
          | (at_make; refine wpList_make_own _ rfl _ _ 34 rfl 0 9 i0 (.string ⟨#[]⟩) 1 Trym.underlying34 hi hz0 hz1 _ _ _ n rfl rfl rfl (by rw [hz2]; omega) (by unfold maxLen; omega) (Nat.zero_le _) ?_; intro w2 hown2 hg2)
          | fail)
        rw [World.size_alloc] at hown2
        have hrel0 : Hid (Rel w w2 S 0 n) := rel_start hown2 hg2
        clear hown2 hg2
        go_loopw [6, 47] (fun dv iv wr => ∃ i : Nat, i ≤ n ∧ iv = .int .i64 i ∧ dv = .slice (some ⟨w.heap.size + 1, 0, none⟩) (firsts S i).length n ∧ Rel w wr S i n) (fun _ iv _ => n - (intOf iv).toNat)
        case atStart => exact ⟨0, Nat.zero_le _, rfl, rfl, hrel0.out⟩
        case round =>
          clear hrel0
          obtain ⟨i, hi', rfl, rfl, hR⟩ := hrel
          have hle := firsts_le S i
          obtain ⟨hrow, hK, hb, hsz⟩ := hR
          by_cases hlt : i < n
          · obtain ⟨ad, rfl, hcx0⟩ := HC.out i hlt
            have hcx := (hb.cell (cell_lt hcx0)).trans hcx0
            have hsx := HZ.out i hlt
            have HD : Hid (∀ q (hq : q < (firsts S i).length), wr.cell? ⟨w.heap.size + 1, q, none⟩ = some (.string (firsts S i)[q])) := row_cells hrow
            have hblk := cell_lt hcx0
            have HCX : Hid (w.cell? (ad.add i) = some (.string (S i))) := hcx0
            clear HC HZ hcx0
            go_upto_block 4 with fail
            go_cut [8] (fun v w' => ∃ c : Int, v = .int .i64 c ∧ ((S i ∈ firsts S i ∧ c = ix (firsts S i) (S i)) ∨ (S i ∉ firsts S i ∧ c = -1)) ∧ ∃ q, w' = wr.drewN q)
            case first =>
              have hnd := hK.nodup
              clear hrow hK hb
              generalize hL : firsts S i = L at *
              clear hL
              go_wp2
              go_loopw [8, 52] (fun v m w' => ∃ j : Nat, j ≤ L.length ∧ m = .int .i64 j ∧ v = .int .i64 (-1) ∧ (∀ q (hq : q < L.length), q < j → L[q] ≠ S i) ∧ ∃ q, w' = wr.drewN q) (fun _ m _ => L.length - (intOf m).toNat)
              case atStart => exact ⟨0, Nat.zero_le _, rfl, rfl, fun q _ hq => by omega, 0, rfl⟩
              case round =>
                obtain ⟨j, hj, rfl, rfl, hno, q, rfl⟩ := hrel
                have HNO : Hid (∀ q (hq : q < L.length), q < j → L[q] ≠ S i) := hno
                clear hno
                by_cases hjl : j < L.length
                · have hcd := HD.out j hjl
                  clear HD
                  go_wp2
                  go_quiet (fail)
                  go_wp2
                  · have he : L[j] = S i := str_eq (by assumption)
                    go_meet
                    case rel => exact ⟨_, rfl, Or.inl ⟨(ix_of hnd hjl he).2, by rw [(ix_of hnd hjl he).1]⟩, q + nq, by simp⟩
                  · have he : L[j] ≠ S i := str_ne (by assumption)
                    go_roundw
                    case rel =>
                      refine ⟨j + 1, by omega, by go_num, rfl, fun q hq hq' => ?_, _, rfl⟩
                      by_cases e : q = j
                      · subst e; exact he
                      · exact HNO.out q hq (by omega)
                    case measure => simp [intOf]; omega
                · go_wp2
                  go_meet
                  case rel =>
                    refine ⟨-1, rfl, Or.inr ⟨fun hm => ?_, rfl⟩, _, rfl⟩
                    obtain ⟨q, hq, e⟩ := List.getElem_of_mem hm
                    exact HNO.out q hq (by omega) e
            case rest =>
              obtain ⟨c, rfl, hc, q, hwc⟩ := hcut
              rw [hwc]
              clear hwc HD
              have hrowW : (wr.drewN q).ownsRow 0 9 1 (.slice (some ⟨w.heap.size + 1, 0, none⟩) (firsts S i).length n) (firsts S i).length ((firsts S i).map Value.string) := hrow
              have hKW : Keys (wr.drewN q) (Oset w.heap.size) w.heap.size (firsts S i) := hK
              have hbW : Below w.heap.size w (wr.drewN q) := below_drewN hb q
              have hszW : w.heap.size + 1 < (wr.drewN q).heap.size := hsz
              have hcxW : (wr.drewN q).cell? (ad.add i) = some (.string (S i)) := hcx
              generalize wr.drewN q = W at hrowW hKW hbW hszW hcxW ⊢
              clear hrow hK hb hsz hcx
              have hO := oset_lt hszW
              rcases hc with ⟨hin, rfl⟩ | ⟨hout, rfl⟩
              · have hF : ins (firsts S i) (S i) = firsts S i := by rw [ins, inL_iff.2 hin]; rfl
                have HF : Hid (ins (firsts S i) (S i) = firsts S i) := hF
                have hix := ix_lt hin
                clear hin hF
                go_wp2_with fail
                refine (id14 W hKW hO hsx (by omega)).mono ?_
                rintro e w3 ⟨rfl, hK3, hk3⟩
                have hcx3 : w3.cell? (ad.add i) = some (.string (S i)) := (World.cell?_of_block (hk3.block _ (Or.inl hblk))).trans hcxW
                have hO3 : ∀ b, Oset w.heap.size b → b < w3.heap.size := fun b hb => Nat.lt_of_lt_of_le (hO b hb) hk3.size
                clear hKW hcxW
                go_wp2_with fail
                refine (id14_again w3 hK3 hO3 hsx (by omega)).mono ?_
                rintro e w4 ⟨rfl, hK4, hk4⟩
                clear hK3 hcx3
                go_wp2
                go_roundw
                case rel =>
                  refine ⟨i + 1, by omega, by go_num, ?_, rel_next (L := ins (firsts S i) (S i)) rfl ?_ hbW hK4 (hk3.trans hk4)⟩
                  · show _ = Value.slice _ (ins (firsts S i) (S i)).length n
                    rw [HF.out]
                  · rw [HF.out]; exact hrowW
                case measure => simp [intOf]; omega
              · have hF : ins (firsts S i) (S i) = firsts S i ++ [S i] := by rw [ins, inL_false.2 hout]; rfl
                have HF : Hid (ins (firsts S i) (S i) = firsts S i ++ [S i]) := hF
                have HX : Hid (ix (firsts S i) (S i) = (firsts S i).length) := ix_none hout
                clear hout hF
                go_wp2_with (first
                  | (at_builtin; refine wpList_append_fits _ rfl _ _ 34 rfl 0 9 i0 1 Trym.underlying34 hi hz1 (w.heap.size + 1) (firsts S i).length n _ rfl (hrowW.alloc _) ⟨W.heap.size, 0, none⟩ 1 1 [.string (S i)] rfl rfl (cell_one_new _ _ _) (strs_oneCell (S i)) (by omega) ?_; intro w5 hrow5 hg5; have hb5 := below_beside hbW hg5; have hcx5 := (hb5.cell hblk).trans HCX.out; have hK5 := keys_beside hKW hg5; have hO5 := oset_lt (Nat.lt_of_lt_of_le hszW (Nat.le_trans (Nat.le_trans (Nat.le_succ _) (Nat.le_of_eq (World.size_alloc _ _).symm)) hg5.size)); clear hg5 hKW hrowW hcxW)
                  | fail)
                refine (id14 w5 hK5 hO5 hsx (by omega)).mono ?_
                rintro e w3 ⟨rfl, hK3, hk3⟩
                rw [HX.out]
                have hcx3 : w3.cell? (ad.add i) = some (.string (S i)) := (World.cell?_of_block (hk3.block _ (Or.inl hblk))).trans hcx5
                have hO3 : ∀ b, Oset w.heap.size b → b < w3.heap.size := fun b hb => Nat.lt_of_lt_of_le (hO5 b hb) hk3.size
                clear hK5 hcx5
                go_wp2_with fail
                refine (id14_again w3 hK3 hO3 hsx (by omega)).mono ?_
                rintro e w4 ⟨rfl, hK4, hk4⟩
                rw [HX.out]
                clear hK3 hcx3
                go_wp2
                go_roundw
                case rel =>
                  refine ⟨i + 1, by omega, by go_num, ?_, rel_next (L := ins (firsts S i) (S i)) rfl ?_ hb5 hK4 (hk3.trans hk4)⟩
                  · show _ = Value.slice _ (ins (firsts S i) (S i)).length n
                    rw [HF.out]
                    simp
                  · rw [HF.out]; simpa using hrow5
                case measure => simp [intOf]; omega
          · obtain rfl : i = n := by omega
            have hL : ∀ x ∈ firsts S i, x.size ≤ maxLen := fun x hx => by
              obtain ⟨j, hj, e⟩ := firsts_mem S i x hx
              have := HZ.out j hj
              rw [e] at this
              unfold maxLen
              omega
            obtain ⟨mo, so, cap3, c0, c1, hml, hlk⟩ := first_open hK hL
            have hmlr : ∀ ty, (Builtin.len_ #[33] ty #[.map mo]).run Trym.prog wr = .ok (.int .i64 (firsts S i).length) wr := fun ty => hml ty wr rfl
            have HD := tuck (row_cells hrow)
            have HLK := tuck hlk
            clear hml hlk hL hrow hK HC HZ
            go_wp2_with fail
            refine (names15 _ _ _ _ _ c1).mono ?_
            rintro e w4 ⟨rfl, hw4⟩
            rw [hw4]
            clear hw4 w4
            go_wp2_with fail
            refine (ids16 _ _ _ c0).mono ?_
            rintro e w4 ⟨rfl, hw4⟩
            rw [hw4]
            clear hw4 w4 c0 c1
            go_wp2
            clear hmlr
            generalize firsts S i = L at *
            go_loopw [116] (fun m w' => ∃ j : Nat, j ≤ L.length ∧ m = .int .i64 j ∧ ∃ q, w' = wr.drewN q) (fun m _ => L.length - (intOf m).toNat)
            case atStart => exact ⟨0, Nat.zero_le _, rfl, 0, rfl⟩
            case round =>
              obtain ⟨j, hj, rfl, q, rfl⟩ := hrel
              by_cases hjl : j < L.length
              · obtain ⟨⟨ad, rfl, hca⟩, hlk⟩ := HLK.out j hjl
                have hcd := HD.out j hjl
                have hlkq : ∀ nq, (Instr.lookup 33 (.map mo) (.string L[j]) true).run Trym.prog (wr.drewN nq) = .ok (.tuple #[.int .u64 j, .bool true]) (wr.drewN nq) := fun nq => hlk _ rfl
                clear HLK HD hlk
                go_wp2
                go_quiet (fail)
                go_wp2
                go_roundw
                case rel => exact ⟨j + 1, by omega, by go_num, _, rfl⟩
                case measure => simp [intOf]; omega
              · go_wp2
                go_ret
                exact ⟨rfl, below_drewN hb _⟩

end Go.Proofs.Qxb6003653aMods
