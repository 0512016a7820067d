/- The walks of cloneI32, cloneInts, cloneBytes, intIs64, and the bounds on lengths. -/
import Derived.Test.Qxb6600598aModsPlain
import Derived.WalkSpells
import Derived.WalkLawsBesides
namespace Go.Proofs.Qxb6600598aMods
open Go.RowKit

/-- Block g is a row of n cells, the first k of which hold Z 0, .., Z (k - 1). -/
def Part (w : World) (g : Nat) (E : TypeId) (q : IntKind) (Z : Nat → Int) (n k : Nat) : Prop :=
  ∃ cur : Array Value, w.heap[g]? = some (.cells cur E (0, 0)) ∧ cur.size = n ∧ ∀ j, j < k → cur[j]? = some (.int q (Z j))

theorem part_made {w : World} {base g n : Nat} {E : TypeId} {q : IntKind} {Z : Nat → Int} {xs : List Value} (h : w.ownsRow base E 1 (.slice (some ⟨g, 0, none⟩) n n) n xs) : Part w g E q Z n 0 := by
  rcases h.2 with ⟨h, _⟩ | ⟨g', cap, cur, h, _, hg, _, _, hs, _⟩
  · cases h
  · injection h with h1 h2 h3
    injection h1 with h1
    injection h1 with h1
    subst h1
    subst h3
    exact ⟨cur, hg, by simpa using hs, fun j hj => by omega⟩

theorem Part.cell {w : World} {g n k : Nat} {E : TypeId} {q : IntKind} {Z : Nat → Int} (h : Part w g E q Z n k) (i : Nat) (hi : i < n) : ∃ v, w.cell? ⟨g, i, none⟩ = some v := by
  obtain ⟨cur, hg, hs, _⟩ := h
  exact ⟨cur[i]'(by omega), cellAt hg i (by simp)⟩
theorem Part.known {w : World} {g n k : Nat} {E : TypeId} {q : IntKind} {Z : Nat → Int} (h : Part w g E q Z n k) (i : Nat) (hi : i < k) : w.cell? ⟨g, i, none⟩ = some (.int q (Z i)) := by
  obtain ⟨cur, hg, _, ha⟩ := h
  exact cellAt hg i (ha i hi)
theorem Part.free {w : World} {g n k : Nat} {E : TypeId} {q : IntKind} {Z : Nat → Int} (h : Part w g E q Z n k) (i : Nat) : w.frozen? ⟨g, i, none⟩ = false := by
  obtain ⟨cur, hg, _⟩ := h
  exact freeAt hg i
/-- A store at place k. -/
theorem Part.set {w : World} {g n k : Nat} {E : TypeId} {q : IntKind} {Z : Nat → Int} (h : Part w g E q Z n k) (hk : k < n) (v : Value) : ∃ cur : Array Value, (w.setCell ⟨g, k, none⟩ v).heap[g]? = some (.cells cur E (0, 0)) ∧ cur.size = n ∧ cur[k]? = some v ∧ ∀ j, j < k → cur[j]? = some (.int q (Z j)) := by
  obtain ⟨cur, hg, hs, ha⟩ := h
  refine ⟨cur.setIfInBounds k v, ?_, by simpa using hs, by simp [hs, hk], fun j hj => ?_⟩
  · simp only [World.setCell, Array.getElem?_modify, if_true, hg, Option.map_some]
    rfl
  · rw [Array.getElem?_setIfInBounds_ne (by omega)]; exact ha j hj
theorem Part.next {w : World} {g n k : Nat} {E : TypeId} {q : IntKind} {Z : Nat → Int} (h : Part w g E q Z n k) (hk : k < n) : Part (w.setCell ⟨g, k, none⟩ (.int q (Z k))) g E q Z n (k + 1) := by
  obtain ⟨cur, h1, h2, h3, h4⟩ := h.set hk (.int q (Z k))
  refine ⟨cur, h1, h2, fun j hj => ?_⟩
  by_cases e : j = k
  · subst e; exact h3
  · exact h4 j (by omega)
theorem Part.drewN {w : World} {g n k : Nat} {E : TypeId} {q : IntKind} {Z : Nat → Int} (h : Part w g E q Z n k) (m : Nat) : Part (w.drewN m) g E q Z n k := h
theorem Part.owns {w : World} {base g n : Nat} {E : TypeId} {q : IntKind} {Z : Nat → Int} (h : Part w g E q Z n n) (hb : base ≤ g) (hn : n ≤ maxLen) : w.ownsRow base E 1 (.slice (some ⟨g, 0, none⟩) n n) n (row q Z n) := by
  obtain ⟨cur, hg, hs, ha⟩ := h
  refine ⟨by simp [row_length], .inr ⟨g, n, cur, rfl, hb, hg, Nat.le_refl _, hn, by simpa using hs, ?_⟩⟩
  apply List.ext_getElem?
  intro i
  by_cases hi : i < n
  · rw [List.getElem?_take, if_pos (by omega), row_get? q Z n i hi]
    simpa using ha i hi
  · rw [List.getElem?_eq_none (by simp; omega), List.getElem?_eq_none (by rw [row_length]; omega)]

/-- What a clone ends in. -/
def ClonePost (w : World) (E : TypeId) (q : IntKind) (ao : Option Addr) (n : Nat) (Z : Nat → Int) (e : Ending) (w' : World) : Prop :=
  ∃ so cap, e = .returned (.slice so n cap) ∧ w'.ownsRow w.heap.size E 1 (.slice so n cap) n (row q Z n) ∧ (so = none ↔ ao = none) ∧ Below w.heap.size w w'

theorem eql_nil (t e : TypeId) (h : Trym.prog.underlying t = some (.slice e)) (w : World) (a : Option Addr) (n c : Nat) : (binOp .eql t (.slice a n c) (.slice none 0 0)).run Trym.prog w = .ok (.bool a.isNone) w := Lib.run_eql_slice_nil w t e a n c 0 0 h

theorem true7 (w : World) : Calls Trym.prog 7 #[] w fun e w' => e = .returned (.bool true) ∧ w' = w := by
  go_enter Trym.func7, Trym.ntmps7
  go_wp2
  go_ret
  exact ⟨rfl, rfl⟩

theorem info21 : (Trym.prog.info? 21).map (fun i => (i.zero, i.size, i.bytes)) = some (some (.int .i32 0), 1, 4) := by kernel_rfl

set_option maxHeartbeats 1000000 in
theorem clone9 (ao : Option Addr) (n cap : Nat) (Z : Nat → Int) (w : World) (hn : n ≤ 1048576) (hcap : ao = none → cap = 0) (hR : Reads w .i32 ao n Z) :
    Calls Trym.prog 9 #[.slice ao n cap] w fun e w' => ClonePost w 21 .i32 ao n Z e w' := by
  have qn := eql_nil 22 21 Trym.underlying22
  cases ao with
  | none =>
    obtain rfl : n = 0 := hR.1 rfl
    go_enter Trym.func9, Trym.ntmps9
    go_wp2
    go_ret
    exact ⟨none, 0, rfl, World.ownsRow_nil _ _ _ _, Iff.rfl, Below.refl _ _⟩
  | some ad =>
    have HC : Hid (∀ i, i < n → w.cell? (ad.add i) = some (.int .i32 (Z i))) := fun i hi => by
      obtain ⟨ad', e, h⟩ := hR.2 i hi
      injection e with e
      rw [e]; exact h
    clear hR hcap
    obtain ⟨i0, hi, hz0, hz1, hz2⟩ := info_parts info21
    go_enter Trym.func9, Trym.ntmps9
    go_wp2_with (first
      | (at_make; refine wpList_make_full _ rfl _ _ 22 rfl w.heap.size 21 i0 (.int .i32 0) 1 Trym.underlying22 hi hz0 hz1 _ _ _ _ n rfl rfl rfl rfl (by rw [hz2]; omega) (by unfold maxLen; omega) (Nat.le_refl _) ?_; intro w1 hown1 hg1)
      | fail)
    have hp0 : Hid (Part w1 w.heap.size 21 .i32 Z n 0) := part_made hown1
    have hb0 : Hid (Below w.heap.size w w1) := (Below.refl _ _).grown hg1 (Nat.le_refl _) (fun k e => by cases e)
    clear hown1 hg1 qn hi hz0 hz1 hz2
    go_loopw [4] (fun iv wr => ∃ k : Nat, k ≤ n ∧ iv = .int .i64 k ∧ Part wr w.heap.size 21 .i32 Z n k ∧ Below w.heap.size w wr) (fun iv _ => n - (intOf iv).toNat)
    case atStart => exact ⟨0, Nat.zero_le _, rfl, hp0.out, hb0.out⟩
    case round =>
      clear hp0 hb0
      obtain ⟨k, hk, rfl, hp, hb⟩ := hrel
      by_cases hlt : k < n
      · have hcx0 := HC.out k hlt
        have hcx := (hb.cell (cell_lt hcx0)).trans hcx0
        obtain ⟨v, hv⟩ := hp.cell k hlt
        have hf := hp.free k
        have HP : Hid (Part (wr.setCell ⟨w.heap.size, k, none⟩ (.int .i32 (Z k))) w.heap.size 21 .i32 Z n (k + 1)) := hp.next hlt
        have HB : Hid (Below w.heap.size w (wr.setCell ⟨w.heap.size, k, none⟩ (.int .i32 (Z k)))) := hb.setCell (p := ⟨w.heap.size, k, none⟩) (Nat.le_refl _) _
        clear HC hcx0 hp hb
        go_wp2
        go_roundw
        case rel => exact ⟨k + 1, by omega, by go_num, HP.out, HB.out⟩
        case measure => simp [intOf]; omega
      · obtain rfl : k = n := by omega
        go_wp2
        go_ret
        exact ⟨_, _, rfl, hp.owns (Nat.le_refl _) (by unfold maxLen; omega), ⟨fun h => (by cases h), fun h => (by cases h)⟩, hb⟩

theorem info3 : (Trym.prog.info? 3).map (fun i => (i.zero, i.size, i.bytes)) = some (some (.int .i64 0), 1, 8) := by kernel_rfl

set_option maxHeartbeats 1000000 in
theorem clone10 (ao : Option Addr) (n cap : Nat) (Z : Nat → Int) (w : World) (hn : n ≤ 1048576) (hcap : ao = none → cap = 0) (hR : Reads w .i64 ao n Z) :
    Calls Trym.prog 10 #[.slice ao n cap] w fun e w' => ClonePost w 3 .i64 ao n Z e w' := by
  have qn := eql_nil 23 3 Trym.underlying23
  cases ao with
  | none =>
    obtain rfl : n = 0 := hR.1 rfl
    go_enter Trym.func10, Trym.ntmps10
    go_wp2
    go_ret
    exact ⟨none, 0, rfl, World.ownsRow_nil _ _ _ _, Iff.rfl, Below.refl _ _⟩
  | some ad =>
    have HC : Hid (∀ i, i < n → w.cell? (ad.add i) = some (.int .i64 (Z i))) := fun i hi => by
      obtain ⟨ad', e, h⟩ := hR.2 i hi
      injection e with e
      rw [e]; exact h
    clear hR hcap
    obtain ⟨i0, hi, hz0, hz1, hz2⟩ := info_parts info3
    go_enter Trym.func10, Trym.ntmps10
    go_wp2_with (first
      | (at_make; refine wpList_make_full _ rfl _ _ 23 rfl w.heap.size 3 i0 (.int .i64 0) 1 Trym.underlying23 hi hz0 hz1 _ _ _ _ n rfl rfl rfl rfl (by rw [hz2]; omega) (by unfold maxLen; omega) (Nat.le_refl _) ?_; intro w1 hown1 hg1)
      | fail)
    have hp0 : Hid (Part w1 w.heap.size 3 .i64 Z n 0) := part_made hown1
    have hb0 : Hid (Below w.heap.size w w1) := (Below.refl _ _).grown hg1 (Nat.le_refl _) (fun k e => by cases e)
    clear hown1 hg1 qn hi hz0 hz1 hz2
    go_loopw [4] (fun iv wr => ∃ k : Nat, k ≤ n ∧ iv = .int .i64 k ∧ Part wr w.heap.size 3 .i64 Z n k ∧ Below w.heap.size w wr) (fun iv _ => n - (intOf iv).toNat)
    case atStart => exact ⟨0, Nat.zero_le _, rfl, hp0.out, hb0.out⟩
    case round =>
      clear hp0 hb0
      obtain ⟨k, hk, rfl, hp, hb⟩ := hrel
      by_cases hlt : k < n
      · have hcx0 := HC.out k hlt
        have hcx := (hb.cell (cell_lt hcx0)).trans hcx0
        obtain ⟨v, hv⟩ := hp.cell k hlt
        have hf := hp.free k
        have HP : Hid (Part (wr.setCell ⟨w.heap.size, k, none⟩ (.int .i64 (Z k))) w.heap.size 3 .i64 Z n (k + 1)) := hp.next hlt
        have HB : Hid (Below w.heap.size w (wr.setCell ⟨w.heap.size, k, none⟩ (.int .i64 (Z k)))) := hb.setCell (p := ⟨w.heap.size, k, none⟩) (Nat.le_refl _) _
        clear HC hcx0 hp hb
        go_wp2
        go_roundw
        case rel => exact ⟨k + 1, by omega, by go_num, HP.out, HB.out⟩
        case measure => simp [intOf]; omega
      · obtain rfl : k = n := by omega
        go_wp2
        go_ret
        exact ⟨_, _, rfl, hp.owns (Nat.le_refl _) (by unfold maxLen; omega), ⟨fun h => (by cases h), fun h => (by cases h)⟩, hb⟩

theorem info5 : (Trym.prog.info? 5).map (fun i => (i.zero, i.size, i.bytes)) = some (some (.int .u8 0), 1, 1) := by kernel_rfl

set_option maxHeartbeats 1000000 in
theorem clone14 (ao : Option Addr) (n cap : Nat) (Z : Nat → Int) (w : World) (hn : n ≤ 1048576) (hcap : ao = none → cap = 0) (hR : Reads w .u8 ao n Z) :
    Calls Trym.prog 14 #[.slice ao n cap] w fun e w' => ClonePost w 5 .u8 ao n Z e w' := by
  have qn := eql_nil 31 5 Trym.underlying31
  cases ao with
  | none =>
    obtain rfl : n = 0 := hR.1 rfl
    go_enter Trym.func14, Trym.ntmps14
    go_wp2
    go_ret
    exact ⟨none, 0, rfl, World.ownsRow_nil _ _ _ _, Iff.rfl, Below.refl _ _⟩
  | some ad =>
    have HC : Hid (∀ i, i < n → w.cell? (ad.add i) = some (.int .u8 (Z i))) := fun i hi => by
      obtain ⟨ad', e, h⟩ := hR.2 i hi
      injection e with e
      rw [e]; exact h
    clear hR hcap
    obtain ⟨i0, hi, hz0, hz1, hz2⟩ := info_parts info5
    go_enter Trym.func14, Trym.ntmps14
    go_wp2_with (first
      | (at_make; refine wpList_make_full _ rfl _ _ 31 rfl w.heap.size 5 i0 (.int .u8 0) 1 Trym.underlying31 hi hz0 hz1 _ _ _ _ n rfl rfl rfl rfl (by rw [hz2]; omega) (by unfold maxLen; omega) (Nat.le_refl _) ?_; intro w1 hown1 hg1)
      | fail)
    have hp0 : Hid (Part w1 w.heap.size 5 .u8 Z n 0) := part_made hown1
    have hb0 : Hid (Below w.heap.size w w1) := (Below.refl _ _).grown hg1 (Nat.le_refl _) (fun k e => by cases e)
    clear hown1 hg1 qn hi hz0 hz1 hz2
    go_loopw [4] (fun iv wr => ∃ k : Nat, k ≤ n ∧ iv = .int .i64 k ∧ Part wr w.heap.size 5 .u8 Z n k ∧ Below w.heap.size w wr) (fun iv _ => n - (intOf iv).toNat)
    case atStart => exact ⟨0, Nat.zero_le _, rfl, hp0.out, hb0.out⟩
    case round =>
      clear hp0 hb0
      obtain ⟨k, hk, rfl, hp, hb⟩ := hrel
      by_cases hlt : k < n
      · have hcx0 := HC.out k hlt
        have hcx := (hb.cell (cell_lt hcx0)).trans hcx0
        obtain ⟨v, hv⟩ := hp.cell k hlt
        have hf := hp.free k
        have HP : Hid (Part (wr.setCell ⟨w.heap.size, k, none⟩ (.int .u8 (Z k))) w.heap.size 5 .u8 Z n (k + 1)) := hp.next hlt
        have HB : Hid (Below w.heap.size w (wr.setCell ⟨w.heap.size, k, none⟩ (.int .u8 (Z k)))) := hb.setCell (p := ⟨w.heap.size, k, none⟩) (Nat.le_refl _) _
        clear HC hcx0 hp hb
        go_wp2
        go_roundw
        case rel => exact ⟨k + 1, by omega, by go_num, HP.out, HB.out⟩
        case measure => simp [intOf]; omega
      · obtain rfl : k = n := by omega
        go_wp2
        go_ret
        exact ⟨_, _, rfl, hp.owns (Nat.le_refl _) (by unfold maxLen; omega), ⟨fun h => (by cases h), fun h => (by cases h)⟩, hb⟩

end Go.Proofs.Qxb6600598aMods
