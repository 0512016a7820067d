/- Lemmas outside the walk of FnKeysIDFirstSeen. -/
import Derived.Test.Qxb6003653aModsWholeParts
namespace Go.Proofs.Qxb6003653aMods
open Go.RowKit Go.Maps

/-- The different strings among S 0, .., S (i - 1), each at its first place. -/
def firsts (S : Nat → ByteArray) : Nat → List ByteArray
  | 0 => []
  | i + 1 => ins (firsts S i) (S i)

theorem firsts_le (S : Nat → ByteArray) : ∀ i, (firsts S i).length ≤ i
  | 0 => Nat.le_refl _
  | i + 1 => by
    have h1 := firsts_le S i
    have h2 := ins_length (firsts S i) (S i)
    show (ins (firsts S i) (S i)).length ≤ i + 1
    omega

theorem firsts_mem (S : Nat → ByteArray) : ∀ i, ∀ x ∈ firsts S i, ∃ j, j < i ∧ S j = x
  | 0, x, h => by simp [firsts] at h
  | i + 1, x, h => by
    have h' : x ∈ ins (firsts S i) (S i) := h
    unfold ins at h'
    split at h'
    · obtain ⟨j, hj, e⟩ := firsts_mem S i x h'
      exact ⟨j, by omega, e⟩
    · rcases List.mem_append.1 h' with h' | h'
      · obtain ⟨j, hj, e⟩ := firsts_mem S i x h'
        exact ⟨j, by omega, e⟩
      · simp at h'
        exact ⟨i, by omega, h'.symm⟩

/-- The blocks that 'id' lets alone: those that were there, and the row of 'distinct'. -/
def Oset (B : Nat) : Nat → Prop := fun b => b < B ∨ b = B + 1

def Rel (w wr : World) (S : Nat → ByteArray) (i n : Nat) : Prop :=
  wr.ownsRow 0 9 1 (.slice (some ⟨w.heap.size + 1, 0, none⟩) (firsts S i).length n) (firsts S i).length ((firsts S i).map Value.string) ∧
  Keys wr (Oset w.heap.size) w.heap.size (firsts S i) ∧ Below w.heap.size w wr ∧ w.heap.size + 1 < wr.heap.size

theorem rel_start {w w2 : World} {S : Nat → ByteArray} {n : Nat} (hrow : w2.ownsRow 0 9 1 (.slice (some ⟨w.heap.size + 1, 0, none⟩) 0 n) 0 []) (hg : (w.alloc (.cells #[.map none, .slice none 0 0] 45)).grownBy w2 none) : Rel w w2 S 0 n := by
  have hs := hg.size
  rw [World.size_alloc] at hs
  have hp : w2.heap[w.heap.size]? = some (.cells #[.map none, .slice none 0 0] 45 (0, 0)) := (hg.block _ (by simp) (by simp)).trans (heap_alloc_new w _)
  refine ⟨hrow, ⟨none, none, 0, hp, fun h => ?_, ⟨World.ownsRow_nil _ _ _ _, fun k e => by cases e⟩, rfl⟩, ((Below.refl _ w).alloc (Nat.le_refl _) _).grown hg (by simp) (fun k e => by cases e), ?_⟩
  · rcases h with h | h <;> omega
  · exact (hrow.lt _ rfl).2

theorem rel_next {w w2 w3 : World} {S : Nat → ByteArray} {i n : Nat} {L : List ByteArray} (e : L = firsts S (i + 1)) (hrow : w2.ownsRow 0 9 1 (.slice (some ⟨w.heap.size + 1, 0, none⟩) L.length n) L.length (L.map Value.string))
    (hb : Below w.heap.size w w2) (hK : Keys w3 (Oset w.heap.size) w.heap.size L) (hk : Kept (Oset w.heap.size) w2 w3) : Rel w w3 S (i + 1) n := by
  subst e
  have h1 := (hrow.lt (w.heap.size + 1) rfl).2
  refine ⟨ownsRow_block hrow (fun k e => ?_), hK, hb.trans (hk.below (fun b hb => Or.inl hb)), Nat.lt_of_lt_of_le h1 hk.size⟩
  simp only [Value.ownBlock, Option.some.injEq] at e
  exact hk.block k (Or.inr e.symm)

/-- 'distinct = append(distinct, x)' leaves the table as it was. -/
theorem keys_beside {w wr w2 : World} {L : List ByteArray} {o : Obj} (hK : Keys wr (Oset w.heap.size) w.heap.size L) (hg : (wr.alloc o).grownBy w2 (some (w.heap.size + 1))) : Keys w2 (Oset w.heap.size) w.heap.size L := by
  refine hK.keep (fun k hk hO => ?_)
  have h1 := hg.block k (by simp; omega) (fun e => hO (Or.inr (by injection e)))
  exact h1.trans (Below.heap_alloc _ _ _ hk)

theorem below_beside {w wr w2 : World} {o : Obj} (hb : Below w.heap.size w wr) (hg : (wr.alloc o).grownBy w2 (some (w.heap.size + 1))) : Below w.heap.size w w2 :=
  (hb.alloc hb.size o).grown hg (by have := hb.size; simp; omega) (fun k e => by injection e with e; omega)

theorem oset_lt {w wr : World} (h : w.heap.size + 1 < wr.heap.size) : ∀ k, Oset w.heap.size k → k < wr.heap.size := by
  intro k hk
  rcases hk with hk | hk <;> omega

theorem Keys.nodup {w : World} {O : Nat → Prop} {p : Nat} {L : List ByteArray} (h : Keys w O p L) : L.Nodup := by
  obtain ⟨mo, so, cap, _, _, _, hm⟩ := h
  cases mo with
  | none => have : L = [] := hm; subst this; exact List.nodup_nil
  | some bm => obtain ⟨_, D, _, hV⟩ := hm; exact hV.nodup

theorem ix_of {L : List ByteArray} (hd : L.Nodup) {q : Nat} (hq : q < L.length) {x : ByteArray} (e : L[q] = x) : ix L x = q ∧ x ∈ L := by
  have hm : x ∈ L := e ▸ List.getElem_mem hq
  refine ⟨?_, hm⟩
  have h2 : ix L x < L.length := ix_lt hm
  have h3 : L[ix L x]'h2 = L[q] := by rw [ix_get hm, e]
  exact (List.getElem_inj hd).1 h3

/-- A row's cells, by index. -/
theorem row_cells {w : World} {g n : Nat} {L : List ByteArray} (h : w.ownsRow 0 9 1 (.slice (some ⟨g, 0, none⟩) L.length n) L.length (L.map Value.string)) (i : Nat) (hi : i < L.length) : w.cell? ⟨g, i, none⟩ = some (.string L[i]) := by
  rcases h.2 with ⟨h, _⟩ | ⟨g', cap', cur, hv, _, hg, _, _, hs, ht⟩
  · cases h
  · injection hv with h1 h2 h3
    injection h1 with h1
    injection h1 with h1
    subst h1
    refine cellAt hg i ?_
    have e : (cur.toList.take (L.length * 1))[i]? = (L.map Value.string)[i]? := by rw [ht]
    rw [List.getElem?_take, if_pos (by omega), List.getElem?_map, List.getElem?_eq_getElem hi] at e
    simpa using e

/-- What the walk needs of the table at the end, empty or not. -/
theorem first_open {w : World} {O : Nat → Prop} {p : Nat} {L : List ByteArray} (h : Keys w O p L) (hsz : ∀ x ∈ L, x.size ≤ maxLen) :
    ∃ (mo : Option Nat) (so : Option Addr) (cap : Nat), w.cell? ⟨p, 0, none⟩ = some (.map mo) ∧ w.cell? ⟨p, 1, none⟩ = some (.slice so L.length cap) ∧
      (∀ ty (W : World), W.heap = w.heap → (Builtin.len_ #[33] ty #[.map mo]).run Trym.prog W = .ok (.int .i64 L.length) W) ∧
      (∀ i (hi : i < L.length), (∃ ad, so = some ad ∧ w.cell? (ad.add i) = some (.string L[i])) ∧ ∀ W : World, W.heap = w.heap → (Instr.lookup 33 (.map mo) (.string L[i]) true).run Trym.prog W = .ok (.tuple #[.int .u64 i, .bool true]) W) := by
  by_cases h0 : 0 < L.length
  · obtain ⟨bm, g, cap, D, c0, c1, hown, hV, hc⟩ := h.parts h0
    refine ⟨some bm, some ⟨g, 0, none⟩, cap, c0, c1, fun ty W hW => Keys.maplen hown hV hW ty, fun i hi => ⟨⟨_, rfl, ?_⟩, fun W hW => Keys.lookup hown hV hW hi (hsz _ (List.getElem_mem hi))⟩⟩
    have e : (⟨g, 0, none⟩ : Addr).add i = ⟨g, i, none⟩ := by unfold Addr.add; split <;> simp_all
    rw [e]
    exact hc i hi
  · obtain rfl : L = [] := List.eq_nil_of_length_eq_zero (by omega)
    obtain ⟨mo, so, cap, hp, _, hr, hm⟩ := h
    refine ⟨mo, so, cap, cellAt hp 0 rfl, cellAt hp 1 rfl, fun ty W hW => ?_, fun i hi => by simp at hi⟩
    cases mo with
    | none => exact len_nil Trym.underlying33 ty
    | some bm =>
      obtain ⟨_, D, hown, hV⟩ := hm
      exact Keys.maplen hown hV hW ty

end Go.Proofs.Qxb6003653aMods
