/- Plain facts: a map read as the numbering of a list of strings; the two blocks of a table of keys, and what keeps them. No walk here. -/
import Derived.Test.Qxb6003653aModsProg
import Derived.Maps.OwnSet
import Derived.Maps.AppendAt
import Derived.WalkKit
namespace Go.Proofs.Qxb6003653aMods
open Go.RowKit Go.Maps

/-- What a string reads as, as a map's key. -/
def key (s : ByteArray) : Lit := .string s.data.toList
theorem key_inj {a b : ByteArray} (h : key a = key b) : a = b := by
  unfold key at h
  have h2 : a.data.toList = b.data.toList := by injection h
  apply ByteArray.ext
  exact Array.toList_inj.1 h2

theorem key_lit (s : ByteArray) : WideAt.IsKeyLit (key s) := trivial

/-- Does s stand in L? -/
def inL (L : List ByteArray) (s : ByteArray) : Bool := (L.map fun x => x.data.toList).contains s.data.toList
/-- Its first place in L (the length, where it is not there). -/
def ix (L : List ByteArray) (s : ByteArray) : Nat := (L.map fun x => x.data.toList).idxOf s.data.toList

theorem bytes_inj {a b : ByteArray} (h : a.data.toList = b.data.toList) : a = b := ByteArray.ext (Array.toList_inj.1 h)

theorem inL_iff {L : List ByteArray} {s : ByteArray} : inL L s = true ↔ s ∈ L := by
  unfold inL
  rw [List.contains_iff_mem, List.mem_map]
  exact ⟨fun ⟨x, hx, e⟩ => bytes_inj e ▸ hx, fun h => ⟨s, h, rfl⟩⟩
theorem inL_false {L : List ByteArray} {s : ByteArray} : inL L s = false ↔ s ∉ L := by
  rw [← inL_iff]; cases inL L s <;> simp

theorem ix_lt {L : List ByteArray} {s : ByteArray} (h : s ∈ L) : ix L s < L.length := by
  have := List.idxOf_lt_length_of_mem (List.mem_map.2 ⟨s, h, rfl⟩ : s.data.toList ∈ L.map fun x => x.data.toList)
  simpa [ix] using this
theorem ix_get {L : List ByteArray} {s : ByteArray} (h : s ∈ L) : L[ix L s]'(ix_lt h) = s := by
  have hlt : (L.map fun x => x.data.toList).idxOf s.data.toList < (L.map fun x => x.data.toList).length := List.idxOf_lt_length_of_mem (List.mem_map.2 ⟨s, h, rfl⟩)
  have := List.getElem_idxOf hlt
  rw [List.getElem_map] at this
  exact bytes_inj this
theorem ix_none {L : List ByteArray} {s : ByteArray} (h : s ∉ L) : ix L s = L.length := by
  have := List.idxOf_eq_length (l := L.map fun x => x.data.toList) (a := s.data.toList) (fun k => h (by obtain ⟨x, hx, e⟩ := List.mem_map.1 k; exact bytes_inj e ▸ hx))
  simpa [ix] using this

def u64z : DataW Unit := .lit (.int .u64 0)
def num (i : Nat) : DataW Unit := .lit (.int .u64 i)

/-- D numbers the strings of L: L[i] has the number i, and no other string stands in it. -/
def View (D : DataW Unit) (L : List ByteArray) : Prop :=
  Tidy D ∧ Maps.size D = L.length ∧ (∀ s, Maps.has D (key s) = inL L s) ∧ (∀ i (h : i < L.length), D.atKey (key L[i]) u64z = num i)

theorem View.nil : View (.map []) [] := ⟨tidy_empty, rfl, fun s => rfl, fun i h => by simp at h⟩

theorem num_inj {i j : Nat} (h : num i = num j) : i = j := by
  unfold num at h
  injection h with h
  injection h with _ h
  omega

theorem View.nodup {D : DataW Unit} {L : List ByteArray} (h : View D L) : L.Nodup := by
  rw [List.nodup_iff_pairwise_ne, List.pairwise_iff_getElem]
  intro i j hi hj hij e
  have h1 := h.2.2.2 i hi
  have h2 := h.2.2.2 j hj
  rw [e, h2] at h1
  have := num_inj h1
  omega

theorem View.put {D : DataW Unit} {L : List ByteArray} (h : View D L) {s : ByteArray} (hs : s ∉ L) : View (D.put (key s) (num L.length)) (L ++ [s]) := by
  obtain ⟨h1, h2, h3, h4⟩ := h
  refine ⟨h1.put (key_lit s) _, ?_, ?_, ?_⟩
  · rw [size_put h1, h3 s, inL_false.2 hs]; simp [h2]
  · intro x
    by_cases e : x = s
    · subst e
      rw [has_put_same h1.isMap (key_lit x), inL_iff.2 (by simp)]
    · rw [has_put_other (fun k => e (key_inj k)), h3 x, Bool.eq_iff_iff, inL_iff, inL_iff]
      simp [e]
  · intro i hi
    by_cases hl : i < L.length
    · have e : (L ++ [s])[i] = L[i] := by simp [hl]
      have hne : L[i] ≠ s := fun k => hs (k ▸ List.getElem_mem hl)
      rw [e, atKey_put_other (fun k => hne (key_inj k))]
      exact h4 i hl
    · have hi' : i = L.length := by simp at hi; omega
      subst hi'
      have e : (L ++ [s])[L.length] = s := by simp
      rw [e, atKey_put_same h1.isMap (key_lit s)]

theorem View.number {D : DataW Unit} {L : List ByteArray} (h : View D L) {s : ByteArray} (hs : s ∈ L) : D.atKey (key s) u64z = num (ix L s) := by
  have := h.2.2.2 _ (ix_lt hs)
  rwa [ix_get hs] at this

/-- What stays while the blocks of O stay. -/
structure Kept (O : Nat → Prop) (w w' : World) : Prop where
  os : w'.os = w.os
  tape : w'.tape = w.tape
  output : w'.output = w.output
  size : w.heap.size ≤ w'.heap.size
  block : ∀ k, O k → w'.heap[k]? = w.heap[k]?

theorem Kept.refl (O : Nat → Prop) (w : World) : Kept O w w := ⟨rfl, rfl, rfl, Nat.le_refl _, fun _ _ => rfl⟩
theorem Kept.trans {O : Nat → Prop} {a b c : World} (h : Kept O a b) (k : Kept O b c) : Kept O a c :=
  ⟨k.os.trans h.os, k.tape.trans h.tape, k.output.trans h.output, Nat.le_trans h.size k.size, fun i hi => (k.block i hi).trans (h.block i hi)⟩
theorem Kept.of_below {O : Nat → Prop} {B : Nat} {w w' : World} (h : Below B w w') (hO : ∀ k, O k → k < B) : Kept O w w' :=
  ⟨h.os, h.tape, h.output, h.size, fun k hk => h.block k (hO k hk)⟩
theorem Kept.below {O : Nat → Prop} {B : Nat} {w w' : World} (h : Kept O w w') (hO : ∀ k, k < B → O k) : Below B w w' :=
  ⟨h.os, h.tape, h.output, h.size, fun k hk => h.block k (hO k hk)⟩
theorem Kept.of_grown {O : Nat → Prop} {w w' : World} {row : Option Nat} (h : w.grownBy w' row) (hO : ∀ k, O k → k < w.heap.size) (hr : ∀ k, row = some k → ¬ O k) : Kept O w w' :=
  ⟨h.os, h.tape, h.output, h.size, fun k hk => h.block k (hO k hk) (fun e => hr k e.symm hk)⟩
theorem Kept.of_setCell {O : Nat → Prop} (w : World) (a : Addr) (u : Value) (hr : ¬ O a.block) : Kept O w (w.setCell a u) :=
  ⟨rfl, rfl, rfl, by simp [World.setCell], fun k hk => Below.heap_setCell _ _ _ _ (fun e => hr (e ▸ hk))⟩
theorem Kept.of_alloc {O : Nat → Prop} (w : World) (o : Obj) (hO : ∀ k, O k → k < w.heap.size) : Kept O w (w.alloc o) :=
  ⟨rfl, rfl, rfl, by simp, fun k hk => Below.heap_alloc _ _ _ (hO k hk)⟩
theorem Kept.mono {O O' : Nat → Prop} {w w' : World} (h : Kept O w w') (hO : ∀ k, O' k → O k) : Kept O' w w' := ⟨h.os, h.tape, h.output, h.size, fun k hk => h.block k (hO k hk)⟩

/-- The number of s behind the call, and the list behind it. -/
def ins (L : List ByteArray) (s : ByteArray) : List ByteArray := if inL L s then L else L ++ [s]

theorem ownsRow_block {w w' : World} {e : TypeId} {base n : Nat} {v : Value} {xs : List Value} (h : w.ownsRow base e 1 v n xs) (hk : ∀ k, v.ownBlock = some k → w'.heap[k]? = w.heap[k]?) : w'.ownsRow base e 1 v n xs := by
  refine ⟨h.1, ?_⟩
  rcases h.2 with hn | ⟨g, cap, cur, rfl, hb, hgg, rest⟩
  · exact .inl hn
  · exact .inr ⟨g, cap, cur, rfl, hb, by rw [hk g rfl]; exact hgg, rest⟩

theorem ownsMap_block {w w' : World} {P : Program} {k : TypeId} {R : Value → Option (DataW Unit × List MemPlace)} {b n : Nat} {D : DataW Unit} (h : w.ownsMap P k R b n D) (hk : w'.heap[b]? = w.heap[b]?) : w'.ownsMap P k R b n D := by
  obtain ⟨es, clock, hb, r⟩ := h
  exact ⟨es, clock, hk.trans hb, r⟩

/-- The map of a table of keys: none where the table is empty; else a block outside O that numbers L. -/
def MapPart (w : World) (O : Nat → Prop) (L : List ByteArray) : Option Nat → Prop
  | none => L = []
  | some bm => ¬ O bm ∧ ∃ D, w.ownsMap Trym.prog 9 (plainElem Trym.prog 35) bm L.length D ∧ View D L

/-- A slice of the strings of L, its row outside O. -/
def RowPart (w : World) (O : Nat → Prop) (L : List ByteArray) (v : Value) : Prop :=
  w.ownsRow 0 9 1 v L.length (L.map Value.string) ∧ ∀ k, v.ownBlock = some k → ¬ O k

/-- A TABLE OF KEYS at block p: its two fields, the map and the names, all outside the blocks of O. -/
def Keys (w : World) (O : Nat → Prop) (p : Nat) (L : List ByteArray) : Prop :=
  ∃ (mo : Option Nat) (so : Option Addr) (cap : Nat), w.heap[p]? = some (.cells #[.map mo, .slice so L.length cap] 45 (0, 0)) ∧ ¬ O p ∧ RowPart w O L (.slice so L.length cap) ∧ MapPart w O L mo

theorem RowPart.keep {w w' : World} {O : Nat → Prop} {L : List ByteArray} {v : Value} (h : RowPart w O L v) (hk : ∀ k, k < w.heap.size → ¬ O k → w'.heap[k]? = w.heap[k]?) : RowPart w' O L v :=
  ⟨ownsRow_block h.1 (fun k e => hk k (h.1.lt k e).2 (h.2 k e)), h.2⟩

theorem MapPart.keep {w w' : World} {O : Nat → Prop} {L : List ByteArray} {mo : Option Nat} (h : MapPart w O L mo) (hk : ∀ k, k < w.heap.size → ¬ O k → w'.heap[k]? = w.heap[k]?) : MapPart w' O L mo := by
  cases mo with
  | none => exact h
  | some bm =>
    obtain ⟨h1, D, h2, h3⟩ := h
    exact ⟨h1, D, ownsMap_block h2 (hk bm h2.lt h1), h3⟩

theorem lt_heap {w : World} {p : Nat} {o : Obj} (h : w.heap[p]? = some o) : p < w.heap.size := (Array.getElem?_eq_some_iff.1 h).1

/-- A table of keys stays while only the blocks of O, and new ones, turn. -/
theorem Keys.keep {w w' : World} {O : Nat → Prop} {p : Nat} {L : List ByteArray} (h : Keys w O p L) (hk : ∀ k, k < w.heap.size → ¬ O k → w'.heap[k]? = w.heap[k]?) : Keys w' O p L := by
  obtain ⟨mo, so, cap, h1, h2, h3, h4⟩ := h
  exact ⟨mo, so, cap, by rw [hk p (lt_heap h1) h2]; exact h1, h2, h3.keep hk, h4.keep hk⟩

theorem cellAt {w : World} {p : Nat} {cur : Array Value} {t : TypeId} (h : w.heap[p]? = some (.cells cur t (0, 0))) (j : Nat) {v : Value} (hv : cur[j]? = some v) : w.cell? ⟨p, j, none⟩ = some v := by
  rw [cell_of_row w p j cur t (0, 0) h]; exact hv

theorem freeAt {w : World} {p : Nat} {cur : Array Value} {t : TypeId} (h : w.heap[p]? = some (.cells cur t (0, 0))) (j : Nat) : w.frozen? ⟨p, j, none⟩ = false := by
  simp [World.frozen?, h]

/-- The strings S 0, .., S (n - 1). -/
def nm (S : Nat → ByteArray) (n : Nat) : List ByteArray := (List.range n).map S
theorem nm_length (S : Nat → ByteArray) (n : Nat) : (nm S n).length = n := by simp [nm]
theorem nm_zero (S : Nat → ByteArray) : nm S 0 = [] := rfl
theorem nm_succ (S : Nat → ByteArray) (n : Nat) : nm S (n + 1) = nm S n ++ [S n] := by simp [nm, List.range_succ]
theorem nm_get (S : Nat → ByteArray) (n i : Nat) (h : i < (nm S n).length) : (nm S n)[i] = S i := by simp [nm]
theorem nm_get? (S : Nat → ByteArray) (n i : Nat) (h : i < n) : (nm S n)[i]? = some (S i) := by simp [nm, h]
theorem nm_mem {S : Nat → ByteArray} {n : Nat} {x : ByteArray} : x ∈ nm S n ↔ ∃ i, i < n ∧ S i = x := by simp [nm]

theorem cell_lt {w : World} {a : Addr} {v : Value} (h : w.cell? a = some v) : a.block < w.heap.size := by
  cases hb : w.heap[a.block]? with
  | none => simp [World.cell?, hb] at h
  | some o => exact lt_heap hb

/-- A row that was made whole: the block. -/
theorem row_made {w : World} {base g n : Nat} {xs : List Value} (h : w.ownsRow base 9 1 (.slice (some ⟨g, 0, none⟩) n n) n xs) :
    ∃ cur : List Value, w.heap[g]? = some (.cells cur.toArray 9 (0, 0)) ∧ cur.length = n := by
  rcases h.2 with ⟨h, _⟩ | ⟨g', cap, cur, h, _, hg, _, _, hs, _⟩
  · cases h
  · injection h with h1 h2 h3
    injection h1 with h1
    injection h1 with h1
    subst h1
    subst h3
    exact ⟨cur.toList, by simpa using hg, by simpa using hs⟩

/-- A row whose block is known. -/
theorem row_of {w : World} {O : Nat → Prop} {g n : Nat} {cs : List Value} {L : List ByteArray} (hl : L.length = n) (hn : n ≤ maxLen) (hg : w.heap[g]? = some (.cells cs.toArray 9 (0, 0))) (hcs : cs = L.map Value.string) (hO : ¬ O g) :
    RowPart w O L (.slice (some ⟨g, 0, none⟩) n n) := by
  subst hl
  subst hcs
  refine ⟨⟨by simp, .inr ⟨g, L.length, _, rfl, Nat.zero_le _, hg, Nat.le_refl _, hn, by simp, by simp [List.take_of_length_le]⟩⟩, fun k e => ?_⟩
  simp only [Value.ownBlock, Option.some.injEq] at e
  exact e ▸ hO

end Go.Proofs.Qxb6003653aMods
