/- The walks of skip and positions. -/
import Derived.Test.Qxb6600598aModsClones
namespace Go.Proofs.Qxb6600598aMods
open Go.RowKit

theorem cell_new_set (w : World) (a : Addr) (u x : Value) (t : TypeId) : ∀ j y, [x][j]? = some y → ((w.setCell a u).alloc (.cells #[x] t)).cell? ((⟨w.heap.size, 0, none⟩ : Addr).add j) = some y := by
  have h := cell_one_new (w.setCell a u) x t
  have e : (w.setCell a u).heap.size = w.heap.size := by simp [World.setCell]
  rw [e] at h
  exact h

theorem row_set {w : World} {p n : Nat} {cur : Array Value} {xs : List Value} {so : Option Addr} {cap : Nat} (hp : w.heap[p]? = some (.cells cur 35 (0, 0))) (h : w.ownsRow 0 21 1 (.slice so n cap) n xs) (j : Nat) (u : Value) :
    (w.setCell ⟨p, j, none⟩ u).ownsRow 0 21 1 (.slice so n cap) n xs :=
  ownsRow_block h (fun k e => Below.heap_setCell _ _ _ _ (fun e' => apart_row hp h (by rw [e, e'])))

/-- The field's cell just ahead of its store. -/
theorem skip_mid {w w3 : World} {p n : Nat} {m : Int} {al ab x : Value} {so : Option Addr} {cap : Nat} (hp : w.heap[p]? = some (.cells #[.int .i32 m, al, ab, .slice so n cap] 35 (0, 0))) (hpg : some p ≠ (Value.slice so n cap).ownBlock)
    (hg3 : ((w.setCell ⟨p, 0, none⟩ (.int .i32 1)).alloc (.cells #[x] 21)).grownBy w3 (Value.slice so n cap).ownBlock) : w3.cell? ⟨p, 3, none⟩ = some (.slice so n cap) ∧ w3.frozen? ⟨p, 3, none⟩ = false := by
  have hpl := lt_heap hp
  have p2 : ((w.setCell ⟨p, 0, none⟩ (.int .i32 1)).alloc (.cells #[x] 21)).heap[p]? = some (.cells #[.int .i32 1, al, ab, .slice so n cap] 35 (0, 0)) := by
    rw [Below.heap_alloc _ _ _ (by simpa [World.setCell] using hpl)]
    simp only [World.setCell, Array.getElem?_modify, if_true, hp, Option.map_some]
    simp
  have p3 := (hg3.block p (by simp; omega) hpg).trans p2
  exact ⟨cellAt p3 3 rfl, freeAt p3 3⟩

set_option maxHeartbeats 1000000 in
theorem skip18 {w : World} {O : Nat → Prop} {p : Nat} {m : Int} {al ab : Value} {F : Nat → Int} {n : Nat} {q : Int} (hS : Snap w O p m al ab F n) (hO : ∀ k, O k → k < w.heap.size) (hq : F n = q - (if n = 0 then 0 else F 0))
    (b0 : -2147483648 ≤ F 0) (b1 : F 0 ≤ 2147483647) (c0 : -2147483648 ≤ F n) (c1 : F n ≤ 2147483647) (hn : n ≤ 1048576) :
    Calls Trym.prog 18 #[.pointer (some ⟨p, 0, none⟩), .int .i64 q] w fun e w' => e = .returned (.tuple #[]) ∧ Snap w' O p 1 al ab F (n + 1) ∧ Kept O w w' := by
  obtain ⟨so, cap, hp, hOp, hrow, hOr⟩ := hS
  have hpl := lt_heap hp
  have hpg := apart_row hp hrow
  have d0 : w.cell? ⟨p, 0, none⟩ = some (.int .i32 m) := cellAt hp 0 rfl
  have f0 := freeAt hp 0
  have d3 : w.cell? ⟨p, 3, none⟩ = some (.slice so n cap) := cellAt hp 3 rfl
  obtain ⟨i0, hi, hz0, hz1, hz2⟩ := info_parts info21
  have HP : Hid (w.heap[p]? = some (.cells #[.int .i32 m, al, ab, .slice so n cap] 35 (0, 0))) := hp
  have HO : Hid (∀ k, O k → k < w.heap.size) := hO
  have hrow1 := row_set hp hrow 0 (.int .i32 1)
  by_cases h0 : n = 0
  · subst h0
    rw [if_pos rfl] at hq
    have HQ : Hid (F 0 = q) := by show F 0 = q; omega
    have r0 : -2147483648 ≤ q := by omega
    have r1 : q ≤ 2147483647 := by omega
    clear hp hO hq
    go_enter Trym.func18, Trym.ntmps18
    go_wp2_with (first
      | (at_builtin; refine wpList_append_own_at _ rfl _ _ 22 rfl 0 21 i0 (.int .i32 0) 1 4 Trym.underlying22 hi hz0 hz1 hz2 rfl (by decide) _ _ _ rfl (hrow1.alloc _) ⟨w.heap.size, 0, none⟩ 1 1 [.int .i32 (q)] rfl rfl (cell_new_set _ _ _ _ _) (row_one _ _) (by unfold maxLen; omega) (by omega) (Nat.zero_le _) ?_)
      | fail)
    intro v' w3 hown3 hg3 hnil hloc
    have hex : ∃ so' cap', v' = .slice so' 1 cap' := by
      rcases hown3.2 with ⟨_, h⟩ | ⟨g, cap', cur, h, _⟩
      · omega
      · exact ⟨_, _, h⟩
    obtain ⟨so', cap', hv⟩ := hex
    rw [hv] at hown3 hloc ⊢
    clear hv hnil
    rw [← HQ.out] at hown3 hg3
    have FIN : Hid (Snap (w3.setCell ⟨p, 3, none⟩ (.slice so' (0 + 1) cap')) O p 1 al ab F (0 + 1) ∧ Kept O w (w3.setCell ⟨p, 3, none⟩ (.slice so' (0 + 1) cap'))) :=
      skip_end HP.out hOp hrow hOr HO.out rfl hown3 hg3 hloc
    obtain ⟨e3, f3⟩ := skip_mid HP.out hpg hg3
    clear hown3 hg3 hloc
    go_wp2
    go_end0
    exact ⟨rfl, FIN.out⟩
  · rw [if_neg h0] at hq
    have h0' : 0 < n := by omega
    obtain ⟨ad, rfl, hc0⟩ := (reads_of_owns hrow).2 0 h0'
    have hc0' : w.cell? ad = some (.int .i32 (F 0)) := hc0
    have HQ : Hid (F n = q - F 0) := hq
    have q0 : -4294967296 ≤ q := by omega
    have q1 : q ≤ 4294967296 := by omega
    have r0 : -2147483648 ≤ q - F 0 := by omega
    have r1 : q - F 0 ≤ 2147483647 := by omega
    clear hp hO hq hc0
    go_enter Trym.func18, Trym.ntmps18
    go_wp2_with (first
      | (at_builtin; refine wpList_append_own_at _ rfl _ _ 22 rfl 0 21 i0 (.int .i32 0) 1 4 Trym.underlying22 hi hz0 hz1 hz2 rfl (by decide) _ _ _ rfl (hrow1.alloc _) ⟨w.heap.size, 0, none⟩ 1 1 [.int .i32 (q - F 0)] rfl rfl (cell_new_set _ _ _ _ _) (row_one _ _) (by unfold maxLen; omega) (by omega) (Nat.zero_le _) ?_)
      | fail)
    intro v' w3 hown3 hg3 hnil hloc
    have hex : ∃ so' cap', v' = .slice so' (n + 1) cap' := by
      rcases hown3.2 with ⟨_, h⟩ | ⟨g, cap', cur, h, _⟩
      · omega
      · exact ⟨_, _, h⟩
    obtain ⟨so', cap', hv⟩ := hex
    rw [hv] at hown3 hloc ⊢
    clear hv hnil
    rw [← HQ.out] at hown3 hg3
    have FIN : Hid (Snap (w3.setCell ⟨p, 3, none⟩ (.slice so' (n + 1) cap')) O p 1 al ab F (n + 1) ∧ Kept O w (w3.setCell ⟨p, 3, none⟩ (.slice so' (n + 1) cap'))) :=
      skip_end HP.out hOp hrow hOr HO.out rfl hown3 hg3 hloc
    obtain ⟨e3, f3⟩ := skip_mid HP.out hpg hg3
    clear hown3 hg3 hloc
    go_wp2
    go_end0
    exact ⟨rfl, FIN.out⟩

theorem skip12 {w : World} {O : Nat → Prop} {p : Nat} {m : Int} {al ab : Value} {F : Nat → Int} {n : Nat} {q : Int} (hS : Snap w O p m al ab F n) (hO : ∀ k, O k → k < w.heap.size) (hq : F n = q - (if n = 0 then 0 else F 0))
    (b0 : -2147483648 ≤ F 0) (b1 : F 0 ≤ 2147483647) (c0 : -2147483648 ≤ F n) (c1 : F n ≤ 2147483647) (hn : n ≤ 1048576) :
    Calls Trym.prog 12 #[.pointer (some ⟨p, 0, none⟩), .int .i64 q] w fun e w' => e = .returned (.tuple #[]) ∧ Snap w' O p 1 al ab F (n + 1) ∧ Kept O w w' := by
  have HH : Hid (Calls Trym.prog 18 #[.pointer (some ⟨p, 0, none⟩), .int .i64 q] w fun e w' => e = .returned (.tuple #[]) ∧ Snap w' O p 1 al ab F (n + 1) ∧ Kept O w w') := skip18 hS hO hq b0 b1 c0 c1 hn
  clear hS hO hq
  go_enter Trym.func12, Trym.ntmps12
  go_wp2_with (go_at_call 18; refine Calls.mono HH.out ?_; rintro e w' ⟨rfl, hS', hk'⟩)
  go_end0
  exact ⟨rfl, hS', hk'⟩

end Go.Proofs.Qxb6600598aMods
