/- The walks of encodeModel and of FnSkipsWriteDocumentedEncoding. -/
import Derived.Test.Qxb6600598aModsRange
namespace Go.Proofs.Qxb6600598aMods
open Go.RowKit

/-- The documented encoding of the positions P. -/
def enc (P : Nat → Int) (i : Nat) : Int := if i = 0 then P 0 else P i - P 0

theorem enc_back (P : Nat → Int) (k : Nat) : enc P k = P k - (if k = 0 then 0 else enc P 0) := by
  unfold enc
  by_cases h : k = 0
  · subst h; simp
  · simp [h]

def EncPost (w : World) (n : Nat) (P : Nat → Int) (e : Ending) (w' : World) : Prop :=
  e = .returned (.slice (some ⟨w.heap.size, 0, none⟩) n n) ∧ w'.ownsRow w.heap.size 21 1 (.slice (some ⟨w.heap.size, 0, none⟩) n n) n (row .i32 (enc P) n) ∧ Below w.heap.size w w'

set_option maxHeartbeats 1000000 in
theorem enc15 {w : World} {so : Option Addr} {n cap : Nat} {P : Nat → Int} (hR : Reads w .i64 so n P) (hn : n ≤ 1048576)
    (hP : ∀ i, i < n → (-2147483648 ≤ enc P i ∧ enc P i ≤ 2147483647) ∧ -4294967296 ≤ P i ∧ P i ≤ 4294967296) :
    Calls Trym.prog 15 #[.slice so n cap] w fun e w' => EncPost w n P e w' := by
  have HR : Hid (Reads w .i64 so n P) := hR
  have HF : Hid (∀ i, i < n → (-2147483648 ≤ enc P i ∧ enc P i ≤ 2147483647) ∧ -4294967296 ≤ P i ∧ P i ≤ 4294967296) := hP
  clear hR hP
  obtain ⟨i0, hi, hz0, hz1, hz2⟩ := info_parts info21
  go_enter Trym.func15, Trym.ntmps15
  go_wp2_with (first
    | (at_make; refine wpList_make_full _ rfl _ _ 22 rfl w.heap.size 21 i0 (.int .i32 0) 1 Trym.underlying22 hi hz0 hz1 _ _ _ _ n rfl rfl rfl rfl (by rw [hz2]; omega) (by unfold maxLen; omega) (Nat.le_refl _) ?_; intro w1 hown1 hg1)
    | fail)
  have hp0 : Hid (Part w1 w.heap.size 21 .i32 (enc P) n 0) := part_made hown1
  have hb0 : Hid (Below w.heap.size w w1) := (Below.refl _ _).grown hg1 (Nat.le_refl _) (fun k e => by cases e)
  clear hown1 hg1 hi hz0 hz1 hz2
  go_loopw [4] (fun iv wr => ∃ k : Nat, k ≤ n ∧ iv = .int .i64 k ∧ Part wr w.heap.size 21 .i32 (enc P) n k ∧ Below w.heap.size w wr) (fun iv _ => n - (intOf iv).toNat)
  case atStart => exact ⟨0, Nat.zero_le _, rfl, hp0.out, hb0.out⟩
  case round =>
    clear hp0 hb0
    obtain ⟨k, hk, rfl, hp, hb⟩ := hrel
    by_cases hlt : k < n
    · obtain ⟨ad, rfl, hcx0⟩ := HR.out.2 k hlt
      have hcx := (hb.cell (cell_lt hcx0)).trans hcx0
      have hc00 : w.cell? ad = some (.int .i64 (P 0)) := by
        obtain ⟨ad', e, h⟩ := HR.out.2 0 (by omega)
        injection e with e
        rw [e]; exact h
      have hcz := (hb.cell (cell_lt hc00)).trans hc00
      obtain ⟨v, hv⟩ := hp.cell k hlt
      have hf := hp.free k
      obtain ⟨⟨x0, x1⟩, x2, x3⟩ := HF.out k hlt
      obtain ⟨_, y2, y3⟩ := HF.out 0 (by omega)
      by_cases hk0 : k = 0
      · subst hk0
        have e : enc P 0 = P 0 := rfl
        rw [e] at x0 x1
        have HP : Hid (Part (wr.setCell ⟨w.heap.size, 0, none⟩ (.int .i32 (P 0))) w.heap.size 21 .i32 (enc P) n 1) := hp.next hlt
        have HB : Hid (Below w.heap.size w (wr.setCell ⟨w.heap.size, 0, none⟩ (.int .i32 (P 0)))) := hb.setCell (p := ⟨w.heap.size, 0, none⟩) (Nat.le_refl _) _
        clear HR HF hcx0 hp hb hcx e
        go_wp2
        go_roundw
        case rel => exact ⟨1, by omega, rfl, HP.out, HB.out⟩
        case measure => simp [intOf]; omega
      · have hkb : ((k : Int) == 0) = false := by simp; omega
        have e : enc P k = P k - P 0 := by unfold enc; rw [if_neg hk0]
        rw [e] at x0 x1
        have HP : Hid (Part (wr.setCell ⟨w.heap.size, k, none⟩ (.int .i32 (P k - P 0))).drew w.heap.size 21 .i32 (enc P) n (k + 1)) := by
          have h2 := hp.next hlt
          rw [e] at h2
          exact h2
        have HB : Hid (Below w.heap.size w (wr.setCell ⟨w.heap.size, k, none⟩ (.int .i32 (P k - P 0))).drew) := (hb.setCell (p := ⟨w.heap.size, k, none⟩) (Nat.le_refl _) _).drew
        clear HR HF hcx0 hp hb e
        go_wp2
        go_region
        go_wp2
        go_roundw
        case rel => exact ⟨k + 1, by omega, by go_num, HP.out, HB.out⟩
        case measure => simp [intOf]; omega
    · obtain rfl : k = n := by omega
      go_wp2
      go_ret
      exact ⟨rfl, hp.owns (Nat.le_refl _) (by unfold maxLen; omega), hb⟩

end Go.Proofs.Qxb6600598aMods
