/- The walk of '(*keys).id': it answers the first place of s in the table's list, or the list's length; behind it the table holds 'ins L s'. -/
import Derived.Test.Qxb6003653aModsClone
import Derived.Test.Qxb6003653aModsPlain
import Derived.WalkSpells
namespace Go.Proofs.Qxb6003653aMods
open Go.RowKit Go.Maps

theorem law9 : Keyed Trym.prog 9 := string_keyed Trym.underlying9
theorem zero35 (w : World) : (zeroValue 35).run Trym.prog w = .ok (.int .u64 0) w := by kernel_rfl
theorem info9 : (Trym.prog.info? 9).map (fun i => (i.zero, i.size, i.bytes)) = some (some (.string ⟨#[]⟩), 1, 16) := by kernel_rfl

theorem wf_u64 {n : Nat} (h : n ≤ 1048576) : (Lit.int .u64 (n : Int)).wf = true := WalkArith.wf_u64 (by omega)

theorem strs_oneCell (s : ByteArray) : ∀ u ∈ [Value.string s], u.oneCell' = true := by
  intro u hu; simp at hu; subst hu; rfl

theorem apart_row {w : World} {p : Nat} {cur : Array Value} (hp : w.heap[p]? = some (.cells cur 45 (0, 0))) {v : Value} {n : Nat} {xs : List Value} (h : w.ownsRow 0 9 1 v n xs) : some p ≠ v.ownBlock := by
  intro e
  rcases h.2 with ⟨rfl, _⟩ | ⟨g, cap, cur', rfl, _, hg, _⟩
  · cases e
  · simp only [Value.ownBlock, Option.some.injEq] at e
    subst e
    rw [hg] at hp
    simp at hp

theorem apart_map {w : World} {bm n : Nat} {D : DataW Unit} {P : Program} {k : TypeId} {R : Value → Option (DataW Unit × List MemPlace)} (hm : w.ownsMap P k R bm n D) {v : Value} {m : Nat} {xs : List Value} (h : w.ownsRow 0 9 1 v m xs) : some bm ≠ v.ownBlock := by
  intro e
  obtain ⟨es, clock, hb, _⟩ := hm
  rcases h.2 with ⟨rfl, _⟩ | ⟨g, cap, cur', rfl, _, hg, _⟩
  · cases e
  · simp only [Value.ownBlock, Option.some.injEq] at e
    subst e
    rw [hg] at hb
    cases hb

theorem apart_cells {w : World} {p bm n : Nat} {D : DataW Unit} {P : Program} {k : TypeId} {R : Value → Option (DataW Unit × List MemPlace)} (hm : w.ownsMap P k R bm n D) {cur : Array Value} {t : TypeId} (hp : w.heap[p]? = some (.cells cur t (0, 0))) : p ≠ bm := by
  intro e
  obtain ⟨es, clock, hb, _⟩ := hm
  subst e
  rw [hp] at hb
  cases hb

/-- What the tail of 'id' does to the table: the clone's block, the store into the map, the append, the store into the field. -/
theorem id_end {w w1 w2 w3 : World} {O : Nat → Prop} {p bm : Nat} {L : List ByteArray} {so : Option Addr} {cap : Nat} {D : DataW Unit} {s : ByteArray}
    (hp : w.heap[p]? = some (.cells #[.map (some bm), .slice so L.length cap] 45 (0, 0))) (hOp : ¬ O p) (hrow : RowPart w O L (.slice so L.length cap)) (hOb : ¬ O bm)
    (hown : w.ownsMap Trym.prog 9 (plainElem Trym.prog 35) bm L.length D) (hV : View D L) (hs : s ∉ L) (hO : ∀ k, O k → k < w.heap.size)
    (hb1 : Below w.heap.size w w1) (hown2 : w2.ownsMap Trym.prog 9 (plainElem Trym.prog 35) bm (L.length + 1) (D.put (key s) (num L.length))) (hg2 : w1.grownBy w2 (some bm))
    {so' : Option Addr} {cap' : Nat} (hown3 : w3.ownsRow 0 9 1 (.slice so' (L.length + 1) cap') (L.length + 1) (L.map Value.string ++ [.string s]))
    (hg3 : (w2.alloc (.cells #[.string s] 9)).grownBy w3 (Value.slice so L.length cap).ownBlock)
    (hloc : (Value.slice so' (L.length + 1) cap').ownBlock = (Value.slice so L.length cap).ownBlock ∨ (Value.slice so' (L.length + 1) cap').ownBlock = some (w2.alloc (.cells #[.string s] 9)).heap.size) :
    Keys (w3.setCell ⟨p, 1, none⟩ (.slice so' (L.length + 1) cap')) O p (L ++ [s]) ∧ Kept O w (w3.setCell ⟨p, 1, none⟩ (.slice so' (L.length + 1) cap')) := by
  have hpl := lt_heap hp
  have hbl := hown.lt
  have s1 := hb1.size
  have s2 := hg2.size
  have s3 := hg3.size
  have sa : (w2.alloc (.cells #[.string s] 9)).heap.size = w2.heap.size + 1 := by simp
  have hpb : p ≠ bm := apart_cells hown hp
  have hpg := apart_row hp hrow.1
  have hbg := apart_map hown hrow.1
  have p1 : w1.heap[p]? = w.heap[p]? := hb1.block p hpl
  have p2 : w2.heap[p]? = w.heap[p]? := (hg2.block p (by omega) (fun e => hpb (by injection e))).trans p1
  have p3 : w3.heap[p]? = w.heap[p]? := (hg3.block p (by omega) hpg).trans ((Below.heap_alloc _ _ _ (by omega)).trans p2)
  have b3 : w3.heap[bm]? = w2.heap[bm]? := (hg3.block bm (by omega) hbg).trans (Below.heap_alloc _ _ _ (by omega))
  have hnew : ∀ k, (Value.slice so' (L.length + 1) cap').ownBlock = some k → k ≠ p ∧ ¬ O k := by
    intro k hk
    rcases hloc with e | e
    · rw [hk] at e
      exact ⟨fun e' => hpg (by rw [← e, e']), hrow.2 k e.symm⟩
    · rw [hk] at e
      injection e with e
      exact ⟨by omega, fun ho => by have := hO k ho; omega⟩
  have hk1 : Kept O w w1 := Kept.of_below hb1 hO
  have hk2 : Kept O w1 w2 := Kept.of_grown hg2 (fun k hk => by have := hO k hk; omega) (fun k e => by injection e with e; rw [← e]; exact hOb)
  have hka : Kept O w2 (w2.alloc (.cells #[.string s] 9)) := Kept.of_alloc _ _ (fun k hk => by have := hO k hk; omega)
  have hk3 : Kept O (w2.alloc (.cells #[.string s] 9)) w3 := Kept.of_grown hg3 (fun k hk => by have := hO k hk; omega) (fun k e => hrow.2 k e)
  have hk4 : Kept O w3 (w3.setCell ⟨p, 1, none⟩ (.slice so' (L.length + 1) cap')) := Kept.of_setCell _ _ _ hOp
  refine ⟨⟨some bm, so', cap', ?_, hOp, ⟨?_, fun k hk => (hnew k (by simpa using hk)).2⟩, hOb, D.put (key s) (num L.length), ?_, hV.put hs⟩, (((hk1.trans hk2).trans hka).trans hk3).trans hk4⟩
  · have : w3.heap[p]? = some (.cells #[.map (some bm), .slice so L.length cap] 45 (0, 0)) := p3.trans hp
    simp only [World.setCell, Array.getElem?_modify, if_true, this, Option.map_some]
    simp
  · have : (w3.setCell ⟨p, 1, none⟩ (.slice so' (L.length + 1) cap')).ownsRow 0 9 1 (.slice so' (L.length + 1) cap') (L.length + 1) (L.map Value.string ++ [.string s]) :=
      ownsRow_block hown3 (fun k hk => Below.heap_setCell _ _ _ _ (hnew k hk).1)
    simpa using this
  · have : (w3.setCell ⟨p, 1, none⟩ (.slice so' (L.length + 1) cap')).ownsMap Trym.prog 9 (plainElem Trym.prog 35) bm (L.length + 1) (D.put (key s) (num L.length)) :=
      ownsMap_block hown2 ((Below.heap_setCell _ _ _ _ hpb.symm).trans b3)
    simpa using this

end Go.Proofs.Qxb6003653aMods
