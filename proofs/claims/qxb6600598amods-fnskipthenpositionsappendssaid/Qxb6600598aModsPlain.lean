/- Plain facts: rows of integers that the call owns; a snapshot's block; what keeps them. No walk here. -/
import Derived.Test.Qxb6600598aModsProg
import Derived.Maps.AppendAt
import Derived.WalkKit
import Derived.WalkSmall
namespace Go.Proofs.Qxb6600598aMods
open Go.RowKit

/-- The integers F 0, .., F (n - 1) as cells. -/
def row (q : IntKind) (F : Nat → Int) (n : Nat) : List Value := (List.range n).map fun i => .int q (F i)
theorem row_length (q : IntKind) (F : Nat → Int) (n : Nat) : (row q F n).length = n := by simp [row]
theorem row_succ (q : IntKind) (F : Nat → Int) (n : Nat) : row q F (n + 1) = row q F n ++ [.int q (F n)] := by simp [row, List.range_succ]
theorem row_get? (q : IntKind) (F : Nat → Int) (n i : Nat) (h : i < n) : (row q F n)[i]? = some (.int q (F i)) := by simp [row, h]
theorem row_one (q : IntKind) (x : Int) : ∀ u ∈ [Value.int q x], u.oneCell' = true := by
  intro u hu; simp at hu; subst hu; rfl

/-- What stays while the blocks of O stay. -/
structure Kept (O : Nat → Prop) (w w' : World) : Prop where
  os : w'.os = w.os
  tape : w'.tape = w.tape
  output : w'.output = w.output
  size : w.heap.size ≤ w'.heap.size
  block : ∀ k, O k → w'.heap[k]? = w.heap[k]?

theorem Kept.refl (O : Nat → Prop) (w : World) : Kept O w w := ⟨rfl, rfl, rfl, Nat.le_refl _, fun _ _ => rfl⟩
theorem Kept.trans {O : Nat → Prop} {a b c : World} (h : Kept O a b) (k : Kept O b c) : Kept O a c :=
  ⟨k.os.trans h.os, k.tape.trans h.tape, k.output.trans h.output, Nat.le_trans h.size k.size, fun i hi => (k.block i hi).trans (h.block i hi)⟩
theorem Kept.below {O : Nat → Prop} {B : Nat} {w w' : World} (h : Kept O w w') (hO : ∀ k, k < B → O k) : Below B w w' :=
  ⟨h.os, h.tape, h.output, h.size, fun k hk => h.block k (hO k hk)⟩
theorem Kept.of_grown {O : Nat → Prop} {w w' : World} {row : Option Nat} (h : w.grownBy w' row) (hO : ∀ k, O k → k < w.heap.size) (hr : ∀ k, row = some k → ¬ O k) : Kept O w w' :=
  ⟨h.os, h.tape, h.output, h.size, fun k hk => h.block k (hO k hk) (fun e => hr k e.symm hk)⟩
theorem Kept.of_setCell {O : Nat → Prop} (w : World) (a : Addr) (u : Value) (hr : ¬ O a.block) : Kept O w (w.setCell a u) :=
  ⟨rfl, rfl, rfl, by simp [World.setCell], fun k hk => Below.heap_setCell _ _ _ _ (fun e => hr (e ▸ hk))⟩
theorem Kept.of_alloc {O : Nat → Prop} (w : World) (o : Obj) (hO : ∀ k, O k → k < w.heap.size) : Kept O w (w.alloc o) :=
  ⟨rfl, rfl, rfl, by simp, fun k hk => Below.heap_alloc _ _ _ (hO k hk)⟩

theorem ownsRow_block {w w' : World} {e : TypeId} {base n : Nat} {v : Value} {xs : List Value} (h : w.ownsRow base e 1 v n xs) (hk : ∀ k, v.ownBlock = some k → w'.heap[k]? = w.heap[k]?) : w'.ownsRow base e 1 v n xs := by
  refine ⟨h.1, ?_⟩
  rcases h.2 with hn | ⟨g, cap, cur, rfl, hb, hgg, rest⟩
  · exact .inl hn
  · exact .inr ⟨g, cap, cur, rfl, hb, by rw [hk g rfl]; exact hgg, rest⟩

theorem lt_heap {w : World} {p : Nat} {o : Obj} (h : w.heap[p]? = some o) : p < w.heap.size := (Array.getElem?_eq_some_iff.1 h).1
theorem cell_lt {w : World} {a : Addr} {v : Value} (h : w.cell? a = some v) : a.block < w.heap.size := by
  cases hb : w.heap[a.block]? with
  | none => simp [World.cell?, hb] at h
  | some o => exact lt_heap hb
theorem cellAt {w : World} {p : Nat} {cur : Array Value} {t : TypeId} (h : w.heap[p]? = some (.cells cur t (0, 0))) (j : Nat) {v : Value} (hv : cur[j]? = some v) : w.cell? ⟨p, j, none⟩ = some v := by
  rw [cell_of_row w p j cur t (0, 0) h]; exact hv
theorem freeAt {w : World} {p : Nat} {cur : Array Value} {t : TypeId} (h : w.heap[p]? = some (.cells cur t (0, 0))) (j : Nat) : w.frozen? ⟨p, j, none⟩ = false := by
  simp [World.frozen?, h]

/-- WHAT A WALK NEEDS OF A SLICE OF INTEGERS: its cells by index; a nil one has none. -/
def Reads (w : World) (q : IntKind) (so : Option Addr) (n : Nat) (F : Nat → Int) : Prop :=
  (so = none → n = 0) ∧ ∀ i, i < n → ∃ ad, so = some ad ∧ w.cell? (ad.add i) = some (.int q (F i))

theorem Reads.below {w w' : World} {B : Nat} {q : IntKind} {so : Option Addr} {n : Nat} {F : Nat → Int} (h : Reads w q so n F) (hb : Below B w w') (hB : ∀ a : Addr, so = some a → a.block < B) : Reads w' q so n F := by
  refine ⟨h.1, fun i hi => ?_⟩
  obtain ⟨ad, e, hc⟩ := h.2 i hi
  have : (ad.add i).block = ad.block := by unfold Addr.add; split <;> rfl
  exact ⟨ad, e, (hb.cell (by rw [this]; exact hB ad e)).trans hc⟩

theorem Reads.all {w w' : World} {q : IntKind} {so : Option Addr} {n : Nat} {F : Nat → Int} (h : Reads w q so n F) (hb : Below w.heap.size w w') : Reads w' q so n F := by
  refine ⟨h.1, fun i hi => ?_⟩
  obtain ⟨ad, e, hc⟩ := h.2 i hi
  exact ⟨ad, e, (hb.cell (cell_lt hc)).trans hc⟩

/-- A row that is owned reads so. -/
theorem reads_of_owns {w : World} {base : Nat} {e : TypeId} {q : IntKind} {so : Option Addr} {n cap : Nat} {F : Nat → Int} (h : w.ownsRow base e 1 (.slice so n cap) n (row q F n)) : Reads w q so n F := by
  rcases h.2 with ⟨hv, hn⟩ | ⟨g, cap', cur, hv, _, hg, _, _, _, ht⟩
  · exact ⟨fun _ => hn, fun i hi => by omega⟩
  · injection hv with h1 h2 h3
    subst h1
    refine ⟨fun h => (by cases h), fun i hi => ⟨_, rfl, ?_⟩⟩
    have e1 : (⟨g, 0, none⟩ : Addr).add i = ⟨g, i, none⟩ := by unfold Addr.add; split <;> simp_all
    rw [e1]
    refine cellAt hg i ?_
    have e2 : (cur.toList.take (n * 1))[i]? = (row q F n)[i]? := by rw [ht]
    rw [List.getElem?_take, if_pos (by omega), row_get? q F n i hi] at e2
    simpa using e2

/-- A SNAPSHOT at block p: its four cells, its list of numbers F 0, .., F (n - 1), all outside the blocks of O. -/
def Snap (w : World) (O : Nat → Prop) (p : Nat) (m : Int) (al ab : Value) (F : Nat → Int) (n : Nat) : Prop :=
  ∃ (so : Option Addr) (cap : Nat), w.heap[p]? = some (.cells #[.int .i32 m, al, ab, .slice so n cap] 35 (0, 0)) ∧ ¬ O p ∧
    w.ownsRow 0 21 1 (.slice so n cap) n (row .i32 F n) ∧ ∀ k, (Value.slice so n cap).ownBlock = some k → ¬ O k

theorem Snap.keep {w w' : World} {O : Nat → Prop} {p : Nat} {m : Int} {al ab : Value} {F : Nat → Int} {n : Nat} (h : Snap w O p m al ab F n) (hk : ∀ k, k < w.heap.size → ¬ O k → w'.heap[k]? = w.heap[k]?) : Snap w' O p m al ab F n := by
  obtain ⟨so, cap, h1, h2, h3, h4⟩ := h
  exact ⟨so, cap, by rw [hk p (lt_heap h1) h2]; exact h1, h2, ownsRow_block h3 (fun k e => hk k (h3.lt k e).2 (h4 k e)), h4⟩

theorem apart_row {w : World} {p : Nat} {cur : Array Value} (hp : w.heap[p]? = some (.cells cur 35 (0, 0))) {v : Value} {n : Nat} {xs : List Value} (h : w.ownsRow 0 21 1 v n xs) : some p ≠ v.ownBlock := by
  intro e
  rcases h.2 with ⟨rfl, _⟩ | ⟨g, cap, cur', rfl, _, hg, _⟩
  · cases e
  · simp only [Value.ownBlock, Option.some.injEq] at e
    subst e
    rw [hg] at hp
    simp at hp

/-- What 'skip' does: the mode's store, the append, the field's store. -/
theorem skip_end {w w2 w3 : World} {O : Nat → Prop} {p : Nat} {m : Int} {al ab : Value} {F : Nat → Int} {n : Nat} {so : Option Addr} {cap : Nat}
    (hp : w.heap[p]? = some (.cells #[.int .i32 m, al, ab, .slice so n cap] 35 (0, 0))) (hOp : ¬ O p) (hrow : w.ownsRow 0 21 1 (.slice so n cap) n (row .i32 F n)) (hOr : ∀ k, (Value.slice so n cap).ownBlock = some k → ¬ O k) (hO : ∀ k, O k → k < w.heap.size)
    (hw2 : w2 = (w.setCell ⟨p, 0, none⟩ (.int .i32 1)).alloc (.cells #[.int .i32 (F n)] 21))
    {so' : Option Addr} {cap' : Nat} (hown3 : w3.ownsRow 0 21 1 (.slice so' (n + 1) cap') (n + 1) (row .i32 F n ++ [.int .i32 (F n)])) (hg3 : w2.grownBy w3 (Value.slice so n cap).ownBlock)
    (hloc : (Value.slice so' (n + 1) cap').ownBlock = (Value.slice so n cap).ownBlock ∨ (Value.slice so' (n + 1) cap').ownBlock = some (w.heap.size + 1)) :
    Snap (w3.setCell ⟨p, 3, none⟩ (.slice so' (n + 1) cap')) O p 1 al ab F (n + 1) ∧ Kept O w (w3.setCell ⟨p, 3, none⟩ (.slice so' (n + 1) cap')) := by
  have hpl := lt_heap hp
  have hpg := apart_row hp hrow
  have s1 : (w.setCell ⟨p, 0, none⟩ (.int .i32 1)).heap.size = w.heap.size := by simp [World.setCell]
  have s2 : w2.heap.size = w.heap.size + 1 := by rw [hw2]; simp
  have s3 := hg3.size
  have p2 : w2.heap[p]? = some (.cells #[.int .i32 1, al, ab, .slice so n cap] 35 (0, 0)) := by
    rw [hw2, Below.heap_alloc _ _ _ (by omega)]
    simp only [World.setCell, Array.getElem?_modify, if_true, hp, Option.map_some]
    simp
  have p3 : w3.heap[p]? = some (.cells #[.int .i32 1, al, ab, .slice so n cap] 35 (0, 0)) := (hg3.block p (by omega) hpg).trans p2
  have hnew : ∀ k, (Value.slice so' (n + 1) cap').ownBlock = some k → k ≠ p ∧ ¬ O k := by
    intro k hk
    rcases hloc with e | e
    · rw [hk] at e
      exact ⟨fun e' => hpg (by rw [← e, e']), hOr k e.symm⟩
    · rw [hk] at e
      injection e with e
      exact ⟨by omega, fun ho => by have := hO k ho; omega⟩
  have hk1 : Kept O w w2 := by
    rw [hw2]
    exact (Kept.of_setCell w ⟨p, 0, none⟩ (.int .i32 1) hOp).trans (Kept.of_alloc _ _ (fun k hk => by rw [s1]; exact hO k hk))
  have hk2 : Kept O w2 w3 := Kept.of_grown hg3 (fun k hk => by have := hO k hk; omega) hOr
  have hk3 : Kept O w3 (w3.setCell ⟨p, 3, none⟩ (.slice so' (n + 1) cap')) := Kept.of_setCell _ _ _ hOp
  refine ⟨⟨so', cap', ?_, hOp, ?_, fun k hk => (hnew k hk).2⟩, (hk1.trans hk2).trans hk3⟩
  · simp only [World.setCell, Array.getElem?_modify, if_true, p3, Option.map_some]
    simp
  · rw [row_succ]
    exact ownsRow_block hown3 (fun k hk => Below.heap_setCell _ _ _ _ (hnew k hk).1)

end Go.Proofs.Qxb6600598aMods
