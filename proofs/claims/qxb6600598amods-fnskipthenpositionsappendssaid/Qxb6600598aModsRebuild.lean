/- The walk of FnSkippingPositionsRebuildsSkipList. -/
import Derived.Test.Qxb6600598aModsPos
namespace Go.Proofs.Qxb6600598aMods
open Go.RowKit

theorem ret_bool {a b : Bool} (h : a = b) : Ending.returned (.bool a) = .returned (.bool b) := by rw [h]

theorem bytes16 (m : Int) (ao : Option Addr) (n cap : Nat) (w : World) (hn : n ≤ maxLen) : Calls Trym.prog 16 #[.int .i32 m, .slice ao n cap] w fun e w' => e = .returned (.bool (decide (n ≤ 1048576))) ∧ w' = w := by
  unfold maxLen at hn
  by_cases h : (1048576 : Int) < n
  · have H : Hid (decide (n ≤ 1048576) = false) := decide_eq_false (by omega)
    go_enter Trym.func16, Trym.ntmps16
    go_wp2
    go_ret
    exact ⟨ret_bool H.out.symm, rfl⟩
  · have H : Hid (decide (n ≤ 1048576) = true) := decide_eq_true (by omega)
    go_enter Trym.func16, Trym.ntmps16
    go_wp2
    go_ret
    exact ⟨ret_bool H.out.symm, rfl⟩

/-- The mode behind k skips of a fresh snapshot. -/
def md (m : Int) (k : Nat) : Int := if k = 0 then m else 1
theorem md_succ (m : Int) (k : Nat) : md m (k + 1) = 1 := by simp [md]

theorem snap_new {w : World} {m : Int} {al ab : Value} {F : Nat → Int} : Snap (w.alloc (.cells #[.int .i32 m, al, ab, .slice none 0 0] 35)) (fun b => b < w.heap.size) w.heap.size m al ab F 0 :=
  ⟨none, 0, heap_alloc_new w _, Nat.lt_irrefl _, World.ownsRow_nil _ _ _ _, fun k e => by cases e⟩

/-- What the walk reads of a snapshot. -/
theorem Snap.parts {w : World} {O : Nat → Prop} {p : Nat} {m : Int} {al ab : Value} {F : Nat → Int} {n : Nat} (h : Snap w O p m al ab F n) :
    ∃ (so : Option Addr) (cap : Nat), w.cell? ⟨p, 0, none⟩ = some (.int .i32 m) ∧ w.cell? ⟨p, 1, none⟩ = some al ∧ w.cell? ⟨p, 2, none⟩ = some ab ∧ w.cell? ⟨p, 3, none⟩ = some (.slice so n cap) ∧ Reads w .i32 so n F := by
  obtain ⟨so, cap, hp, _, hr, _⟩ := h
  exact ⟨so, cap, cellAt hp 0 rfl, cellAt hp 1 rfl, cellAt hp 2 rfl, cellAt hp 3 rfl, reads_of_owns hr⟩

/-- The cells of a row at a block's head. -/
theorem Reads.at0 {w : World} {q : IntKind} {g n : Nat} {F : Nat → Int} (h : Reads w q (some ⟨g, 0, none⟩) n F) (i : Nat) (hi : i < n) : w.cell? ⟨g, i, none⟩ = some (.int q (F i)) := by
  obtain ⟨ad, e, hc⟩ := h.2 i hi
  injection e with e
  subst e
  have e1 : (⟨g, 0, none⟩ : Addr).add i = ⟨g, i, none⟩ := by unfold Addr.add; split <;> simp_all
  rwa [e1] at hc

theorem pos_back (F : Nat → Int) (k : Nat) : F k = pos F k - (if k = 0 then 0 else F 0) := by
  unfold pos
  split
  · rename_i h; subst h; omega
  · omega

theorem none_cap {w : World} {base n : Nat} {so : Option Addr} {cap : Nat} {E : TypeId} {xs : List Value} (h : w.ownsRow base E 1 (.slice so n cap) n xs) : so = none → cap = 0 := by
  intro e
  subst e
  rcases h.2 with ⟨hv, _⟩ | ⟨g, cap', cur, hv, _⟩
  · injection hv with _ _ h3
  · cases hv

set_option maxHeartbeats 2000000 in
set_option maxRecDepth 100000 in
theorem rebuild_walk (m : Int) (ao : Option Addr) (n cap : Nat) (Z : Nat → Int) (w : World) (hn : n ≤ maxLen) (hcap : ao = none → cap = 0) (hR : Reads w .i32 ao n Z)
    (hZ : ∀ i, i < n → -2147483648 ≤ Z i ∧ Z i ≤ 2147483647) :
    Calls Trym.prog 5 #[.int .i32 m, .slice ao n cap] w fun e w' => e = .returned (.bool true) ∧ Below w.heap.size w w' := by
  have HN : Hid (n ≤ maxLen) := hn
  have HCAP : Hid (ao = none → cap = 0) := hcap
  have HR : Hid (Reads w .i32 ao n Z) := hR
  have HZ : Hid (∀ i, i < n → -2147483648 ≤ Z i ∧ Z i ≤ 2147483647) := hZ
  clear hcap hR hZ
  unfold maxLen at hn
  by_cases hz : n ≤ 262144
  · have HB1 : Hid (decide (n ≤ 1048576) = true) := decide_eq_true (by omega)
    go_enter Trym.func5, Trym.ntmps5
    go_wp2_with fail
    refine (bytes16 m ao n cap _ HN.out).mono ?_
    rintro e w1 ⟨rfl, hw1⟩
    rw [hw1, HB1.out]
    clear hw1 w1 HB1
    go_wp2_with fail
    refine (true7 _).mono ?_
    rintro e w1 ⟨rfl, hw1⟩
    rw [hw1]
    clear hw1 w1
    go_wp2_with fail
    refine (clone9 ao n cap Z _ (by omega) HCAP.out HR.out).mono ?_
    rintro e w1 ⟨s1, c1, rfl, hown1, _, hb1⟩
    go_wp2_with fail
    refine (clone9 s1 n c1 Z _ (by omega) (none_cap hown1) (reads_of_owns hown1)).mono ?_
    rintro e w2 ⟨s2, c2, rfl, hown2, _, hb2⟩
    have HB2 : Hid (Below w.heap.size w w2) := hb1.trans (hb2.mono hb1.size)
    have HR1 : Hid (Reads w2 .i32 s1 n Z) := (reads_of_owns hown1).all hb2
    have hR2 := reads_of_owns hown2
    clear hown1 hown2 hb1 hb2 HR HCAP
    go_wp2_with fail
    have hp3 := heap_alloc_new w2 (.cells #[.int .i32 m, .int .i64 0, .slice none 0 0, .slice s2 n c2] 35)
    have hb3 := (Below.refl w2.heap.size w2).alloc (Nat.le_refl _) (.cells #[.int .i32 m, .int .i64 0, .slice none 0 0, .slice s2 n c2] 35)
    have HB3 : Hid (Below w.heap.size w (w2.alloc (.cells #[.int .i32 m, .int .i64 0, .slice none 0 0, .slice s2 n c2] 35))) := HB2.out.trans (hb3.mono HB2.out.size)
    have HR3 := HR1.out.all hb3
    have hR3 := hR2.all hb3
    clear hb3 HR1 hR2 HB2
    generalize w2.alloc (.cells #[.int .i32 m, .int .i64 0, .slice none 0 0, .slice s2 n c2] 35) = w3 at *
    generalize w2.heap.size = p at *
    refine (pos11 (cellAt hp3 3 rfl) hR3 (by omega) HZ.out).mono ?_
    rintro e w4 ⟨rfl, hown4, hb4⟩
    have d0 : w4.cell? ⟨p, 0, none⟩ = some (.int .i32 m) := (hb4.cell (p := ⟨p, 0, none⟩) (lt_heap hp3)).trans (cellAt hp3 0 rfl)
    have HR4 : Hid (Reads w4 .i32 s1 n Z) := HR3.all hb4
    have HP4 : Hid (Reads w4 .i64 (some ⟨w3.heap.size, 0, none⟩) n (pos Z)) := reads_of_owns hown4
    have HB4 : Hid (Below w.heap.size w w4) := HB3.out.trans (hb4.mono HB3.out.size)
    clear hp3 HR3 hR3 hown4 hb4 HB3
    generalize w3.heap.size = g at *
    go_wp2
    clear d0
    go_loopw [8] (fun iv wr => ∃ k : Nat, k ≤ n ∧ iv = .int .i64 k ∧ Snap wr (fun b => b < w4.heap.size) w4.heap.size (md 0 k) (.int .i64 0) (.slice none 0 0) Z k ∧ Below w4.heap.size w4 wr) (fun iv _ => n - (intOf iv).toNat)
    case atStart => exact ⟨0, Nat.zero_le _, rfl, snap_new, (Below.refl _ _).alloc (Nat.le_refl _) _⟩
    case round =>
      obtain ⟨k, hk, rfl, hS, hb⟩ := hrel
      by_cases hlt : k < n
      · have hcp := (HP4.out.all hb).at0 k hlt
        obtain ⟨x0, x1⟩ := HZ.out k hlt
        obtain ⟨y0, y1⟩ := HZ.out 0 (by omega)
        clear HR4 HP4 HZ HB4
        go_wp2_with fail
        refine (skip12 hS (fun b hb' => Nat.lt_of_lt_of_le hb' hb.size) (pos_back Z k) y0 y1 x0 x1 (by omega)).mono ?_
        rintro e w5 ⟨rfl, hS5, hk5⟩
        have hb5 := hb.trans (hk5.below (fun b hb' => hb'))
        clear hS hk5 hcp hb
        go_wp2
        go_roundw
        case rel => exact ⟨k + 1, by omega, by go_num, by rw [md_succ]; exact hS5, hb5⟩
        case measure => simp [intOf]; omega
      · obtain rfl : k = n := by omega
        obtain ⟨so, c5, d0, _, _, d3, hRt⟩ := hS.parts
        have HRt : Hid (Reads wr .i32 so k Z) := hRt
        have HR5 : Hid (Reads wr .i32 s1 k Z) := HR4.out.all hb
        have HB5 : Hid (Below w.heap.size w wr) := HB4.out.trans (hb.mono HB4.out.size)
        clear hS hRt HR4 HP4 HZ HB4 hb
        go_wp2
        go_loopw [9] (fun iv w' => ∃ j : Nat, j ≤ k ∧ iv = .int .i64 j ∧ ∃ q, w' = wr.drewN q) (fun iv _ => k - (intOf iv).toNat)
        case atStart => exact ⟨0, Nat.zero_le _, rfl, 0, rfl⟩
        case round =>
          obtain ⟨j, hj, rfl, q, rfl⟩ := hrel
          by_cases hjl : j < k
          · obtain ⟨ad1, rfl, hc1⟩ := HR5.out.2 j hjl
            obtain ⟨ad2, rfl, hc2⟩ := HRt.out.2 j hjl
            clear HR5 HRt
            go_wp2
            go_quiet (fail)
            go_wp2
            go_roundw
            case rel => exact ⟨j + 1, by omega, by go_num, _, rfl⟩
            case measure => simp [intOf]; omega
          · clear HR5 HRt
            by_cases h0 : k = 0
            · subst h0
              have hm : md 0 0 = 0 := rfl
              go_wp2
              go_ret
              exact ⟨rfl, below_drewN HB5.out _⟩
            · have hm : md 0 k = 1 := by simp [md, h0]
              have h0' : (0 : Int) < k := by omega
              go_wp2
              go_ret
              exact ⟨rfl, below_drewN HB5.out _⟩
  · have hdz : decide (n ≤ 262144) = false := decide_eq_false hz
    by_cases hb : n ≤ 1048576
    · have HB1 : Hid (decide (n ≤ 1048576) = true) := decide_eq_true hb
      go_enter Trym.func5, Trym.ntmps5
      go_wp2_with fail
      refine (bytes16 m ao n cap _ HN.out).mono ?_
      rintro e w1 ⟨rfl, hw1⟩
      rw [hw1, HB1.out]
      clear hw1 w1 HB1
      go_wp2
      go_ret
      exact ⟨rfl, Below.refl _ _⟩
    · have HB1 : Hid (decide (n ≤ 1048576) = false) := decide_eq_false hb
      go_enter Trym.func5, Trym.ntmps5
      go_wp2_with fail
      refine (bytes16 m ao n cap _ HN.out).mono ?_
      rintro e w1 ⟨rfl, hw1⟩
      rw [hw1, HB1.out]
      clear hw1 w1 HB1
      go_wp2
      go_ret
      exact ⟨rfl, Below.refl _ _⟩

end Go.Proofs.Qxb6600598aMods
