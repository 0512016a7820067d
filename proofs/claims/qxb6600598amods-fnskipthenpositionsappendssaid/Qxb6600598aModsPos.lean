/- The walk of positions. -/
import Derived.Test.Qxb6600598aModsSkip
import Derived.Deep.QuietTactic
import Derived.BigQuiet
namespace Go.Proofs.Qxb6600598aMods
open Go.RowKit

/-- The positions that a list of entries stands for. -/
def pos (F : Nat → Int) (i : Nat) : Int := if i = 0 then F 0 else F i + F 0

def PosPost (w : World) (n : Nat) (F : Nat → Int) (e : Ending) (w' : World) : Prop :=
  e = .returned (.slice (some ⟨w.heap.size, 0, none⟩) n n) ∧ w'.ownsRow w.heap.size 3 1 (.slice (some ⟨w.heap.size, 0, none⟩) n n) n (row .i64 (pos F) n) ∧ Below w.heap.size w w'

theorem part_twice {w : World} {g n k : Nat} {E : TypeId} {q : IntKind} {Z : Nat → Int} (h : Part w g E q Z n k) (hk : k < n) (u : Value) : Part ((w.setCell ⟨g, k, none⟩ u).setCell ⟨g, k, none⟩ (.int q (Z k))) g E q Z n (k + 1) := by
  obtain ⟨cur, h1, h2, _, h4⟩ := h.set hk u
  exact Part.next ⟨cur, h1, h2, h4⟩ hk

set_option maxHeartbeats 1000000 in
theorem pos17 {w : World} {p n cap : Nat} {so : Option Addr} {F : Nat → Int} (hc : w.cell? ⟨p, 3, none⟩ = some (.slice so n cap)) (hR : Reads w .i32 so n F) (hn : n ≤ 1048576)
    (hF : ∀ i, i < n → -2147483648 ≤ F i ∧ F i ≤ 2147483647) :
    Calls Trym.prog 17 #[.pointer (some ⟨p, 0, none⟩)] w fun e w' => PosPost w n F e w' := by
  have HR : Hid (Reads w .i32 so n F) := hR
  have HF : Hid (∀ i, i < n → -2147483648 ≤ F i ∧ F i ≤ 2147483647) := hF
  have hpl := cell_lt hc
  have HCC : Hid (w.cell? ⟨p, 3, none⟩ = some (.slice so n cap)) := hc
  clear hR hF
  obtain ⟨i0, hi, hz0, hz1, hz2⟩ := info_parts info3
  go_enter Trym.func17, Trym.ntmps17
  go_wp2_with (first
    | (at_make; refine wpList_make_full _ rfl _ _ 23 rfl w.heap.size 3 i0 (.int .i64 0) 1 Trym.underlying23 hi hz0 hz1 _ _ _ _ n rfl rfl rfl rfl (by rw [hz2]; omega) (by unfold maxLen; omega) (Nat.le_refl _) ?_; intro w1 hown1 hg1; have hc1 := (World.cell?_of_block (a := ⟨p, 3, none⟩) (hg1.block p hpl (by simp))).trans HCC.out)
    | fail)
  have hp0 : Hid (Part w1 w.heap.size 3 .i64 (pos F) n 0) := part_made hown1
  have hb0 : Hid (Below w.heap.size w w1) := (Below.refl _ _).grown hg1 (Nat.le_refl _) (fun k e => by cases e)
  clear hown1 hg1 hi hz0 hz1 hz2 hc hc1 HCC
  go_loopw [17] (fun iv wr => ∃ k : Nat, k ≤ n ∧ iv = .int .i64 k ∧ Part wr w.heap.size 3 .i64 (pos F) n k ∧ Below w.heap.size w wr) (fun iv _ => n - (intOf iv).toNat)
  case atStart => exact ⟨0, Nat.zero_le _, rfl, hp0.out, hb0.out⟩
  case round =>
    clear hp0 hb0
    obtain ⟨k, hk, rfl, hp, hb⟩ := hrel
    by_cases hlt : k < n
    · obtain ⟨ad, rfl, hcx0⟩ := HR.out.2 k hlt
      have hcx := (hb.cell (cell_lt hcx0)).trans hcx0
      obtain ⟨v, hv⟩ := hp.cell k hlt
      have hf := hp.free k
      obtain ⟨x0, x1⟩ := HF.out k hlt
      by_cases hk0 : k = 0
      · subst hk0
        have HP : Hid (Part (wr.setCell ⟨w.heap.size, 0, none⟩ (.int .i64 (F 0))) w.heap.size 3 .i64 (pos F) n 1) := hp.next hlt
        have HB : Hid (Below w.heap.size w (wr.setCell ⟨w.heap.size, 0, none⟩ (.int .i64 (F 0)))) := hb.setCell (p := ⟨w.heap.size, 0, none⟩) (Nat.le_refl _) _
        have hcx' : wr.cell? ad = some (.int .i32 (F 0)) := hcx
        clear HR HF hcx0 hp hb hcx
        go_wp2
        go_roundw
        case rel => exact ⟨1, by omega, rfl, HP.out, HB.out⟩
        case measure => simp [intOf]; omega
      · have hk1 : 0 < k := by omega
        have hk2 : (0 : Int) < k := by omega
        obtain ⟨y0, y1⟩ := HF.out 0 (by omega)
        have hz : wr.cell? ⟨w.heap.size, 0, none⟩ = some (.int .i64 (F 0)) := hp.known 0 hk1
        have HP : Hid (Part ((wr.setCell ⟨w.heap.size, k, none⟩ (.int .i64 (F k))).setCell ⟨w.heap.size, k, none⟩ (.int .i64 (F k + F 0))).drew w.heap.size 3 .i64 (pos F) n (k + 1)) := by
          have h2 := part_twice hp hlt (.int .i64 (F k))
          have e : pos F k = F k + F 0 := by unfold pos; rw [if_neg hk0]
          rw [e] at h2
          exact h2
        have HB : Hid (Below w.heap.size w ((wr.setCell ⟨w.heap.size, k, none⟩ (.int .i64 (F k))).setCell ⟨w.heap.size, k, none⟩ (.int .i64 (F k + F 0))).drew) :=
          ((hb.setCell (p := ⟨w.heap.size, k, none⟩) (Nat.le_refl _) _).setCell (p := ⟨w.heap.size, k, none⟩) (Nat.le_refl _) _).drew
        clear HR HF hcx0 hp hb
        go_wp2
        go_region
        go_wp2
        go_roundw
        case rel => exact ⟨k + 1, by omega, by go_num, HP.out, HB.out⟩
        case measure => simp [intOf]; omega
    · obtain rfl : k = n := by omega
      go_wp2
      go_ret
      exact ⟨rfl, hp.owns (Nat.le_refl _) (by unfold maxLen; omega), hb⟩

theorem pos11 {w : World} {p n cap : Nat} {so : Option Addr} {F : Nat → Int} (hc : w.cell? ⟨p, 3, none⟩ = some (.slice so n cap)) (hR : Reads w .i32 so n F) (hn : n ≤ 1048576)
    (hF : ∀ i, i < n → -2147483648 ≤ F i ∧ F i ≤ 2147483647) :
    Calls Trym.prog 11 #[.pointer (some ⟨p, 0, none⟩)] w fun e w' => PosPost w n F e w' := by
  have HH : Hid (Calls Trym.prog 17 #[.pointer (some ⟨p, 0, none⟩)] w fun e w' => PosPost w n F e w') := pos17 hc hR hn hF
  clear hc hR hF
  go_enter Trym.func11, Trym.ntmps11
  go_wp2_with (go_at_call 17; refine Calls.mono HH.out ?_; rintro e w' ⟨rfl, h1, h2⟩)
  go_ret
  exact ⟨rfl, h1, h2⟩

end Go.Proofs.Qxb6600598aMods
