/- The walk of zzUtoa: it answers one or more digits, at most twenty. -/
import Derived.Test.Qxb6600081aModsWalks
namespace Go.Proofs.Qxb6600081aMods
open Go.RowKit

/-- From place k on the twenty cells hold digits. -/
def Digs (arr : Array Value) (k : Nat) : Prop := arr.size = 20 ∧ ∀ j, k ≤ j → j < 20 → ∃ d : Int, arr[j]? = some (.int .u8 d) ∧ 48 ≤ d ∧ d ≤ 57

theorem digs_start (arr : Array Value) (h : arr.size = 20) : Digs arr 20 := ⟨h, fun j h1 h2 => by omega⟩
theorem digs_set {arr : Array Value} {m : Nat} {d : Int} (h : Digs arr (m + 1)) (hm : m < 20) (h1 : 48 ≤ d) (h2 : d ≤ 57) : Digs (arr.setIfInBounds m (.int .u8 d)) m := by
  refine ⟨by simpa using h.1, fun j hj hj' => ?_⟩
  by_cases e : j = m
  · subst e
    exact ⟨d, by simp [h.1, hm], h1, h2⟩
  · obtain ⟨d', hd, r⟩ := h.2 j (by omega) hj'
    exact ⟨d', by rw [Array.getElem?_setIfInBounds_ne (by omega)]; exact hd, r⟩

/-- The numbers in those cells. -/
def digList (arr : Array Value) (k : Nat) : List Int := (List.range (20 - k)).map fun j => intOf (arr[k + j]?.getD undef)
theorem digList_length (arr : Array Value) (k : Nat) : (digList arr k).length = 20 - k := by simp [digList]
theorem digList_at {arr : Array Value} {k : Nat} (h : Digs arr k) (hk : k ≤ 20) (i : Nat) (hi : i < 20 - k) : arr[k + i]? = some (.int .u8 ((digList arr k).getD i 0)) := by
  obtain ⟨d, hd, _⟩ := h.2 (k + i) (by omega) (by omega)
  rw [hd]
  simp [digList, List.getD, hi, hd, intOf]
theorem digList_num {arr : Array Value} {k : Nat} (h : Digs arr k) (hk : k < 20) : isNum (strOfNums (digList arr k)).data.toList = true := by
  rw [strOfNums_data]
  unfold isNum
  rw [Bool.and_eq_true]
  constructor
  · rw [List.all_eq_true]
    intro c hc
    obtain ⟨n, hn, rfl⟩ := List.mem_map.1 hc
    obtain ⟨i, hi, e⟩ := List.getElem_of_mem hn
    rw [digList_length] at hi
    have h1 := digList_at h (by omega) i hi
    obtain ⟨d, hd, hd1, hd2⟩ := h.2 (k + i) (by omega) (by omega)
    rw [hd] at h1
    have e2 : (digList arr k).getD i 0 = n := by simp [List.getD, digList_length, hi, e]
    rw [e2] at h1
    injection h1 with h1
    injection h1 with _ h1
    subst h1
    unfold digB digI
    rw [decide_eq_true_iff]
    have : (UInt8.ofNat d.toNat).toNat = d.toNat := by simp; omega
    rw [this]
    omega
  · cases hl : digList arr k with
    | nil => have := digList_length arr k; rw [hl] at this; simp at this; omega
    | cons _ _ => rfl

theorem pow_div {x : Int} {m : Nat} (h0 : 0 ≤ x) (h : x.toNat < 10 ^ (m + 1)) : (x / 10).toNat < 10 ^ m := by
  have e : (x / 10).toNat = x.toNat / 10 := by omega
  rw [e, Nat.div_lt_iff_lt_mul (by omega), ← Nat.pow_succ]
  exact h

theorem pow20 {u : Int} (h1 : u ≤ 18446744073709551615) : u.toNat < 10 ^ 20 := by
  have : (10 : Nat) ^ 20 = 100000000000000000000 := by decide
  rw [this]; omega

theorem arr31 : Trym.prog.underlying 31 = some (.array (Trym.prog.arrayLen 31) (Trym.prog.elem 31)) := by kernel_rfl
theorem len31 : Trym.prog.arrayLen 31 = 20 := by kernel_rfl
theorem elem31 : Trym.prog.elem 31 = 5 := by kernel_rfl

theorem slice31 (b m : Nat) (hm : m < 20) (W : World) : (Instr.sliceAt 31 (.pointer (some ⟨b, 0, none⟩)) (some (.int .i64 (m : Int))) none none).run Trym.prog W = .ok (.slice (some ⟨b, m, none⟩) (20 - m) (20 - m)) W := by
  rw [run_sliceAt_array_l W 31 ⟨b, 0, none⟩ arr31 .i64 m (by omega) (by rw [len31]; omega), len31, elem31, Trym.sizeOf5 W]
  have e1 : (20 : Nat) ≠ m := by omega
  have e2 : (⟨b, 0, none⟩ : Addr).add (m * 1) = ⟨b, m, none⟩ := by unfold Addr.add; split <;> simp_all
  simp [slicedAt, e1, Result.andThen] 
  simpa using e2

set_option maxHeartbeats 1000000 in
theorem utoa11 (u : Int) (w : World) (h0 : 0 ≤ u) (h1 : u ≤ 18446744073709551615) :
    Calls Trym.prog 11 #[.int .u64 u] w fun e w' => ∃ s : ByteArray, e = .returned (.string s) ∧ s.size ≤ 20 ∧ isNum s.data.toList = true ∧ Grown w w' := by
  have HP : Hid (u.toNat < 10 ^ 20) := pow20 h1
  go_enter Trym.func11, Trym.ntmps11
  go_wp2
  go_loopw [0, 4] (fun uv iv wr => ∃ (x : Int) (k : Nat) (arr : Array Value), uv = .int .u64 x ∧ iv = .int .i64 k ∧ 0 ≤ x ∧ x ≤ 18446744073709551615 ∧ x.toNat < 10 ^ k ∧ k ≤ 20 ∧ (k = 20 ∨ 0 < x) ∧ Digs arr k ∧ wr = w.alloc (.cells arr 31)) (fun _ iv _ => (intOf iv).toNat)
  case atStart => exact ⟨u, 20, _, rfl, rfl, h0, h1, HP.out, Nat.le_refl _, Or.inl rfl, digs_start _ rfl, rfl⟩
  case round =>
    clear h0 h1 HP
    obtain ⟨x, k, arr, rfl, rfl, hx0, hx1, hp, hk, hor, hD, rfl⟩ := hrel
    have hk1 : 1 ≤ k := by
      rcases Nat.eq_zero_or_pos k with e | e
      · subst e; simp at hp; omega
      · exact e
    obtain ⟨m, rfl⟩ : ∃ m, k = m + 1 := ⟨k - 1, by omega⟩
    have HP : Hid ((x / 10).toNat < 10 ^ m) := pow_div hx0 hp
    have HD : Hid (Digs (arr.setIfInBounds m (.int .u8 (48 + x % 10))) m) := digs_set hD (by omega) (by omega) (by omega)
    have hsz := hD.1
    obtain ⟨v, hv⟩ : ∃ v, arr[m]? = some v := ⟨arr[m]'(by omega), by simp⟩
    have hc : (w.alloc (.cells arr 31)).cell? ⟨w.heap.size, m, none⟩ = some v := by simp [hv]
    clear hp hor hD hv
    have hsl := slice31 w.heap.size m (by omega)
    have hcv := run_convert_bytes_arg (P := Trym.prog) (w.alloc (.cells (arr.setIfInBounds m (.int .u8 (48 + x % 10))) 31)) 32 5 Trym.underlying32 Trym.underlying5 w.heap.size m (20 - m) (20 - m) (digList (arr.setIfInBounds m (.int .u8 (48 + x % 10))) m) (digList_length _ _)
      (fun i hi => by rw [World.cell?_alloc_at _ _ _ _ rfl]; exact digList_at HD.out (by omega) i hi) 9 Trym.underlying9
    have HN : Hid (isNum (strOfNums (digList (arr.setIfInBounds m (.int .u8 (48 + x % 10))) m)).data.toList = true) := digList_num HD.out (by omega)
    have HZ : Hid ((strOfNums (digList (arr.setIfInBounds m (.int .u8 (48 + x % 10))) m)).size ≤ 20) := by
      show _ ≤ 20
      rw [strOfNums_size, digList_length]; omega
    go_wp2
    · go_ret
      exact ⟨_, rfl, HZ.out, HN.out, (Grown.refl _).alloc _ _⟩
    · have hz : (x / 10 == 0) = false := by assumption
      have hz' : x / 10 ≠ 0 := by simpa using hz
      go_roundw
      case rel => exact ⟨x / 10, m, _, rfl, rfl, by omega, by omega, HP.out, by omega, Or.inr (by omega), HD.out, rfl⟩
      case measure => simp [intOf]

end Go.Proofs.Qxb6600081aMods
