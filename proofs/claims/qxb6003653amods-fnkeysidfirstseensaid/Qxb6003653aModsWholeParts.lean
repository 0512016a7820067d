/- Lemmas outside the walk of FnKeysIDWhole. -/
import Derived.Test.Qxb6003653aModsIdWalk
import Derived.Laws.CopyRow
import Derived.Laws.IdiomCopy
import Derived.WalkSmall
namespace Go.Proofs.Qxb6003653aMods
open Go.RowKit Go.Maps
open Go.WideMaps (keyOf_string_mk)

theorem make33 (m : Int) (w : World) : (Instr.makeMap 33 (some (.int .i64 m))).run Trym.prog w = .ok (.map (some w.heap.size)) (w.alloc (.map #[] 0)) := by
  simp [Instr.makeMap, run_underlying Trym.underlying33, asInt, newObj, Result.andThen]
  rfl

theorem size9 : (Trym.prog.info? 9).map (·.size) = some 1 := by kernel_rfl

theorem strs_one (L : List ByteArray) : ∀ v ∈ L.map Value.string, v.oneCell' = true := by
  intro v hv
  obtain ⟨s, _, rfl⟩ := List.mem_map.1 hv
  rfl

/-- 'copy(names2, names)', names2 a row of the call's own of the same length. -/
theorem copy_run {W : World} {g n cap : Nat} {ao : Option Addr} {S : Nat → ByteArray} {cur : List Value} (hg : W.heap[g]? = some (.cells cur.toArray 9 (0, 0))) (hl : cur.length = n)
    (hc : ∀ i, i < n → ∃ ad, ao = some ad ∧ W.cell? (ad.add i) = some (.string (S i))) :
    ∃ W2, (∀ ty, (Builtin.copy_ #[34, 34] ty #[.slice (some ⟨g, 0, none⟩) n n, .slice ao n cap]).run Trym.prog W = .ok (.int .i64 n) W2) ∧
      W2.heap[g]? = some (.cells ((nm S n).map Value.string).toArray 9 (0, 0)) ∧ W.grownBy W2 (some g) := by
  by_cases h0 : n = 0
  · subst h0
    refine ⟨W, fun ty => ?_, ?_, ⟨rfl, rfl, rfl, Nat.le_refl _, fun _ _ _ => rfl⟩⟩
    · exact run_copy_none (P := Trym.prog) W 34 34 ty 9 _ _ 0 0 0 cap Trym.underlying34 size9 rfl
    · obtain rfl : cur = [] := List.eq_nil_of_length_eq_zero hl
      simpa [nm] using hg
  · obtain ⟨ad, rfl, _⟩ := hc 0 (by omega)
    have hcs : ((nm S n).map Value.string).length = n := by simp [nm_length]
    have hsrc : ∀ j v, ((nm S n).map Value.string)[j]? = some v → W.cell? (ad.add j) = some v := by
      intro j v hv
      rw [List.getElem?_map] at hv
      by_cases hj : j < n
      · rw [nm_get? S n j hj] at hv
        obtain ⟨ad', e, h⟩ := hc j hj
        injection e with e
        subst e
        simp at hv
        rw [h, hv]
      · rw [List.getElem?_eq_none (by rw [nm_length]; omega)] at hv
        simp at hv
    refine ⟨W.setRow g (cur.take 0 ++ (nm S n).map Value.string ++ cur.drop (0 + n)).toArray, fun ty => ?_, ?_, ⟨rfl, rfl, rfl, by simp [World.setRow], fun k _ hk => setRow_other _ _ _ _ (fun e => hk (by rw [e]))⟩⟩
    · have := run_copy_row (P := Trym.prog) W 34 34 ty 9 g 0 n n ad n cap cur.toArray 9 ((nm S n).map Value.string) Trym.underlying34 size9 hg (by rw [hcs]; exact (Nat.min_self n).symm) hsrc (by rw [hcs]; simp [hl]) (strs_one _)
      rw [hcs] at this
      exact this
    · rw [setRow_heap W g _ _ 9 (0, 0) hg, List.drop_of_length_le (by omega)]
      simp

theorem fresh_name {S : Nat → ByteArray} {lk : ByteArray → Int} {n k : Nat} (h : ∀ j, j < n → lk (S j) = j) (hk : k < n) : S k ∉ nm S k := by
  intro hm
  obtain ⟨i, hi, e⟩ := nm_mem.1 hm
  have h1 := h i (by omega)
  have h2 := h k hk
  rw [e, h2] at h1
  omega

/-- The table behind ZZMakeKeys. -/
theorem keys_made {w : World} {O : Nat → Prop} {L : List ByteArray} {mo : Option Nat} {so : Option Addr} {n cap : Nat} (hn : L.length = n) (hO : ∀ k, O k → k < w.heap.size) (hr : RowPart w O L (.slice so n cap)) (hm : MapPart w O L mo) :
    Keys (w.alloc (.cells #[.map mo, .slice so n cap] 45)) O w.heap.size L := by
  subst hn
  have hk : ∀ k, k < w.heap.size → ¬ O k → (w.alloc (.cells #[.map mo, .slice so L.length cap] 45)).heap[k]? = w.heap[k]? := fun k h _ => Below.heap_alloc _ _ _ h
  exact ⟨mo, so, cap, heap_alloc_new w _, fun h => Nat.lt_irrefl _ (hO _ h), hr.keep hk, hm.keep hk⟩

theorem ix_ins (L : List ByteArray) (s : ByteArray) : ix (ins L s) s = ix L s := by
  by_cases h : s ∈ L
  · rw [ins, inL_iff.2 h]; rfl
  · rw [ix_none h, ins, inL_false.2 h]
    simp only [Bool.false_eq_true, if_false, ix, List.map_append, List.map_cons, List.map_nil]
    rw [List.idxOf_append, if_neg (fun k => h (by obtain ⟨x, hx, e⟩ := List.mem_map.1 k; exact bytes_inj e ▸ hx))]
    simp

theorem ins_ins (L : List ByteArray) (s : ByteArray) : ins (ins L s) s = ins L s := by
  have : s ∈ ins L s := by
    by_cases h : s ∈ L
    · rw [ins, inL_iff.2 h]; exact h
    · rw [ins, inL_false.2 h]; simp
  rw [ins, inL_iff.2 this]
  rfl

theorem ins_length (L : List ByteArray) (s : ByteArray) : (ins L s).length ≤ L.length + 1 := by
  unfold ins
  split
  · omega
  · simp

/-- Asked again at once. -/
theorem id14_again {O : Nat → Prop} {p : Nat} {L : List ByteArray} {s : ByteArray} (w : World) (hK : Keys w O p (ins L s)) (hO : ∀ k, O k → k < w.heap.size) (hsz : s.size ≤ 1048576) (hL : L.length < 1048576) :
    Calls Trym.prog 14 #[.pointer (some ⟨p, 0, none⟩), .string s] w fun e w' => e = .returned (.int .u64 (ix L s)) ∧ Keys w' O p (ins L s) ∧ Kept O w w' := by
  have := ins_length L s
  have h := id14 (s := s) w hK hO hsz (by omega)
  rwa [ix_ins, ins_ins] at h

theorem ins_pos (L : List ByteArray) (s : ByteArray) : 0 < (ins L s).length := by
  unfold ins
  split
  · rename_i h
    exact List.length_pos_of_mem (inL_iff.1 h)
  · simp

/-- What a table with at least one key gives the walk: its two cells, its row's cells, its map. -/
theorem Keys.parts {w : World} {O : Nat → Prop} {p : Nat} {L : List ByteArray} (h : Keys w O p L) (h0 : 0 < L.length) :
    ∃ (bm g cap : Nat) (D : DataW Unit), w.cell? ⟨p, 0, none⟩ = some (.map (some bm)) ∧ w.cell? ⟨p, 1, none⟩ = some (.slice (some ⟨g, 0, none⟩) L.length cap) ∧
      w.ownsMap Trym.prog 9 (plainElem Trym.prog 35) bm L.length D ∧ View D L ∧ ∀ i (hi : i < L.length), w.cell? ⟨g, i, none⟩ = some (.string L[i]) := by
  obtain ⟨mo, so, cap, hp, _, hr, hm⟩ := h
  cases mo with
  | none => have : L = [] := hm; subst this; simp at h0
  | some bm =>
    obtain ⟨_, D, hown, hV⟩ := hm
    rcases hr.1.2 with ⟨_, h⟩ | ⟨g, cap', cur, hv, _, hg, _, _, hs, ht⟩
    · omega
    · injection hv with h1 h2 h3
      subst h1
      refine ⟨bm, g, cap, D, cellAt hp 0 rfl, cellAt hp 1 rfl, hown, hV, fun i hi => ?_⟩
      refine cellAt hg i ?_
      have e : (cur.toList.take (L.length * 1))[i]? = (L.map Value.string)[i]? := by rw [ht]
      rw [List.getElem?_take, if_pos (by omega), List.getElem?_map, List.getElem?_eq_getElem hi] at e
      simpa using e

/-- names2: a new row, filled from names. -/
theorem names_made {w wc w1 : World} {k cap : Nat} {ao : Option Addr} {S : Nat → ByteArray} {mo2 : Option Nat} {xs : List Value} (hmap : MapPart wc (fun b => b < w.heap.size) (nm S k) mo2) (hnx : Below w.heap.size w wc)
    (hown1 : w1.ownsRow 0 9 1 (.slice (some ⟨wc.heap.size, 0, none⟩) k k) k xs) (hg1 : wc.grownBy w1 none)
    (hC : ∀ i, i < k → ∃ ad, ao = some ad ∧ wc.cell? (ad.add i) = some (.string (S i))) :
    ∃ w2, (∀ ty, (Builtin.copy_ #[34, 34] ty #[.slice (some ⟨wc.heap.size, 0, none⟩) k k, .slice ao k cap]).run Trym.prog w1 = .ok (.int .i64 k) w2) ∧
      RowPart w2 (fun b => b < w.heap.size) (nm S k) (.slice (some ⟨wc.heap.size, 0, none⟩) k k) ∧ Below w.heap.size w w2 ∧ MapPart w2 (fun b => b < w.heap.size) (nm S k) mo2 := by
  obtain ⟨cur, hg, hl⟩ := row_made hown1
  have hkm : k ≤ maxLen := by
    rcases hown1.2 with ⟨h, _⟩ | ⟨_, cap', _, h, _, _, h1, h2, _⟩
    · cases h
    · exact Nat.le_trans h1 h2
  obtain ⟨w2, hcp, hrow, hg2⟩ := copy_run (cap := cap) (ao := ao) (S := S) hg hl (fun i hi => by
    obtain ⟨ad, e, hc⟩ := hC i hi
    exact ⟨ad, e, (World.cell?_of_block (hg1.block _ (cell_lt hc) (by simp))).trans hc⟩)
  have s0 := hnx.size
  have s1 := hg1.size
  refine ⟨w2, hcp, row_of (nm_length _ _) hkm hrow rfl (by omega), (hnx.grown hg1 s0 (fun _ e => by cases e)).grown hg2 (by omega) (fun q e => by cases e; exact s0), ?_⟩
  have hne : ∀ q, q < wc.heap.size → w2.heap[q]? = wc.heap[q]? := fun q hq => (hg2.block q (by omega) (fun e => by injection e with e; omega)).trans (hg1.block q hq (by simp))
  cases mo2 with
  | none => exact hmap
  | some bm =>
    obtain ⟨h1, D, h2, h3⟩ := hmap
    exact ⟨h1, D, ownsMap_block h2 (hne bm h2.lt), h3⟩

theorem str_eq {a b : ByteArray} (h : (a.toList == b.toList) = true) : a = b := by
  rw [ByteArray.toList_eq, ByteArray.toList_eq] at h
  exact bytes_inj (by simpa using h)
theorem str_ne {a b : ByteArray} (h : (a.toList == b.toList) = false) : a ≠ b := by
  rintro rfl
  simp at h
theorem str_same (a : ByteArray) : (a.toList == a.toList) = true := by simp
theorem str_diff (a : ByteArray) : (a.toList != a.toList) = false := by simp

theorem found_at {S : Nat → ByteArray} {lk : ByteArray → Int} {k j : Nat} {s : ByteArray} (h : ∀ j, j < k → lk (S j) = j) (hj : j < k) (e : S j = s) : ix (nm S k) s = j ∧ inL (nm S k) s = true := by
  have hm : s ∈ nm S k := nm_mem.2 ⟨j, hj, e⟩
  have h1 := ix_get hm
  have h2 := ix_lt hm
  rw [nm_get] at h1
  rw [nm_length] at h2
  refine ⟨?_, inL_iff.2 hm⟩
  have h3 := h _ h2
  have h4 := h j hj
  rw [e] at h4
  rw [h1, h4] at h3
  omega
theorem found_not {S : Nat → ByteArray} {k : Nat} {s : ByteArray} (h : ∀ q, q < k → S q ≠ s) : ix (nm S k) s = k ∧ inL (nm S k) s = false := by
  have hm : s ∉ nm S k := fun hm => by
    obtain ⟨i, hi, e⟩ := nm_mem.1 hm
    exact h i hi e
  exact ⟨by rw [ix_none hm, nm_length], inL_false.2 hm⟩

theorem u64_eq {a b : Nat} (h : a = b) : Value.int .u64 (a : Int) = .int .u64 (b : Int) := by rw [h]

theorem Keys.lookup {w W : World} {bm n : Nat} {D : DataW Unit} {L : List ByteArray} (hown : w.ownsMap Trym.prog 9 (plainElem Trym.prog 35) bm n D) (hV : View D L) (hW : W.heap = w.heap) {i : Nat} (hi : i < L.length) (hs : L[i].size ≤ maxLen) :
    (Instr.lookup 33 (.map (some bm)) (.string L[i]) true).run Trym.prog W = .ok (.tuple #[.int .u64 i, .bool true]) W := by
  have hown' : W.ownsMap Trym.prog 9 (plainElem Trym.prog 35) bm n D := ownsMap_block hown (by rw [hW])
  obtain ⟨v, ps, hrun, hv⟩ := hown'.look_ok law9 Trym.underlying33 (zero35 W) (plainElem_int Trym.underlying35 (a := 0) (by decide)) (keyOf_string_mk Trym.underlying9 hs)
  have hh : Maps.has D (.string L[i].data.toList) = true := (hV.2.2.1 L[i]).trans (inL_iff.2 (List.getElem_mem hi))
  obtain ⟨c, rfl, hc, _⟩ := plainElem_int_inv Trym.underlying35 hv
  have h1 := hV.2.2.2 i hi
  have h2 : D.atKey (.string L[i].data.toList) (.lit (.int .u64 0)) = .lit (.int .u64 c) := congrArg Prod.fst hc
  have h3 : (.lit (.int .u64 c) : DataW Unit) = .lit (.int .u64 i) := h2.symm.trans h1
  injection h3 with h3
  injection h3 with _ h3
  subst h3
  rw [hrun, hh]

theorem Keys.maplen {w W : World} {bm n : Nat} {D : DataW Unit} {L : List ByteArray} (hown : w.ownsMap Trym.prog 9 (plainElem Trym.prog 35) bm n D) (hV : View D L) (hW : W.heap = w.heap) (ty : TypeId) :
    (Builtin.len_ #[33] ty #[.map (some bm)]).run Trym.prog W = .ok (.int .i64 L.length) W := by
  have hown' : W.ownsMap Trym.prog 9 (plainElem Trym.prog 35) bm n D := ownsMap_block hown (by rw [hW])
  rw [hown'.len Trym.underlying33 ty, hV.2.1]

/-- What the walk needs of the table behind the two calls of 'id'. -/
theorem whole_open {w : World} {O : Nat → Prop} {p k : Nat} {S : Nat → ByteArray} {s : ByteArray} (h : Keys w O p (ins (nm S k) s)) (hS : ∀ i, i < k → (S i).size ≤ maxLen) (hs : s.size ≤ maxLen) :
    ∃ (bm g cap m : Nat) (R : Nat → ByteArray), w.cell? ⟨p, 0, none⟩ = some (.map (some bm)) ∧ w.cell? ⟨p, 1, none⟩ = some (.slice (some ⟨g, 0, none⟩) m cap) ∧
      (∀ i, i < m → w.cell? ⟨g, i, none⟩ = some (.string (R i))) ∧ (∀ ty (W : World), W.heap = w.heap → (Builtin.len_ #[33] ty #[.map (some bm)]).run Trym.prog W = .ok (.int .i64 m) W) ∧
      (∀ i, i < m → ∀ W : World, W.heap = w.heap → (Instr.lookup 33 (.map (some bm)) (.string (R i)) true).run Trym.prog W = .ok (.tuple #[.int .u64 i, .bool true]) W) ∧
      (∀ i, i < k → R i = S i) ∧ (s ∈ nm S k → m = k) ∧ (s ∉ nm S k → m = k + 1 ∧ R k = s) := by
  obtain ⟨bm, g, cap, D, c0, c1, hown, hV, hc⟩ := h.parts (ins_pos _ _)
  have hR : ∀ i (hi : i < (ins (nm S k) s).length), (ins (nm S k) s).getD i ByteArray.empty = (ins (nm S k) s)[i] := fun i hi => by simp [hi]
  have hsz : ∀ x ∈ ins (nm S k) s, x.size ≤ maxLen := by
    intro x hx
    by_cases hm : s ∈ nm S k
    · rw [ins, inL_iff.2 hm] at hx
      obtain ⟨i, hi, rfl⟩ := nm_mem.1 (show x ∈ nm S k from hx)
      exact hS i hi
    · rw [ins, inL_false.2 hm] at hx
      rcases List.mem_append.1 (show x ∈ nm S k ++ [s] from hx) with h | h
      · obtain ⟨i, hi, rfl⟩ := nm_mem.1 h
        exact hS i hi
      · simp at h
        rw [h]; exact hs
  refine ⟨bm, g, cap, (ins (nm S k) s).length, fun i => (ins (nm S k) s).getD i ByteArray.empty, c0, c1, fun i hi => by show w.cell? ⟨g, i, none⟩ = some (.string ((ins (nm S k) s).getD i ByteArray.empty)); rw [hR i hi]; exact hc i hi, fun ty W hW => Keys.maplen hown hV hW ty, fun i hi W hW => ?_, fun i hi => ?_, fun hm => ?_, fun hm => ?_⟩
  · show (Instr.lookup 33 (.map (some bm)) (.string ((ins (nm S k) s).getD i ByteArray.empty)) true).run Trym.prog W = _
    rw [hR i hi]
    exact Keys.lookup hown hV hW hi (hsz _ (List.getElem_mem hi))
  · show (ins (nm S k) s).getD i ByteArray.empty = S i
    have e : (ins (nm S k) s)[i]? = some (S i) := by
      unfold ins
      split
      · exact nm_get? S k i hi
      · rw [List.getElem?_append_left (by rw [nm_length]; exact hi)]
        exact nm_get? S k i hi
    simp [List.getD, e]
  · rw [ins, inL_iff.2 hm]
    exact nm_length S k
  · have e : ins (nm S k) s = nm S k ++ [s] := by rw [ins, inL_false.2 hm]; rfl
    rw [e]
    refine ⟨by simp [nm_length], ?_⟩
    show (nm S k ++ [s]).getD k ByteArray.empty = s
    simp [List.getD, nm_length]

end Go.Proofs.Qxb6003653aMods
