/- The walk of '(*keys).id' and of the four small functions that hand it on. -/
import Derived.Test.Qxb6003653aModsId
namespace Go.Proofs.Qxb6003653aMods
open Go.RowKit Go.Maps
open Go.WideMaps (keyOf_string_mk)

theorem make13 (mo : Option Nat) (so : Option Addr) (n cap : Nat) (w : World) :
    Calls Trym.prog 13 #[.map mo, .slice so n cap] w fun e w' => e = .returned (.pointer (some ⟨w.heap.size, 0, none⟩)) ∧ w' = w.alloc (.cells #[.map mo, .slice so n cap] 45) := by
  go_enter Trym.func13, Trym.ntmps13
  go_wp2
  go_ret
  exact ⟨rfl, rfl⟩

theorem names15 (p n cap : Nat) (so : Option Addr) (w : World) (h : w.cell? ⟨p, 1, none⟩ = some (.slice so n cap)) :
    Calls Trym.prog 15 #[.pointer (some ⟨p, 0, none⟩)] w fun e w' => e = .returned (.slice so n cap) ∧ w' = w := by
  go_enter Trym.func15, Trym.ntmps15
  go_wp2
  go_ret
  exact ⟨rfl, rfl⟩

theorem ids16 (p : Nat) (mo : Option Nat) (w : World) (h : w.cell? ⟨p, 0, none⟩ = some (.map mo)) :
    Calls Trym.prog 16 #[.pointer (some ⟨p, 0, none⟩)] w fun e w' => e = .returned (.map mo) ∧ w' = w := by
  go_enter Trym.func16, Trym.ntmps16
  go_wp2
  go_ret
  exact ⟨rfl, rfl⟩

set_option maxHeartbeats 400000 in
/-- s stands in the table already. -/
theorem id_old {p bm n : Nat} {D : DataW Unit} {s : ByteArray} {i : Nat} (w : World) (c0 : w.cell? ⟨p, 0, none⟩ = some (.map (some bm)))
    (hown : w.ownsMap Trym.prog 9 (plainElem Trym.prog 35) bm n D) (hhas : Maps.has D (.string s.data.toList) = true) (hat0 : D.atKey (.string s.data.toList) (.lit (.int .u64 0)) = .lit (.int .u64 i)) (hs : s.size ≤ 1048576) :
    Calls Trym.prog 19 #[.pointer (some ⟨p, 0, none⟩), .string s] w fun e w' => e = .returned (.int .u64 i) ∧ w' = w := by
  have hkey := keyOf_string_mk (s := s) Trym.underlying9 (by unfold maxLen; omega)
  have H0 : Hid (D.atKey (.string s.data.toList) (.lit (.int .u64 0)) = .lit (.int .u64 i)) := hat0
  clear hat0
  go_enter Trym.func19, Trym.ntmps19
  go_wp2_with (first
    | (at_lookup; refine wpList_lookup_own_ok_int _ rfl _ _ 33 rfl 9 35 .u64 law9 Trym.underlying33 Trym.underlying35 (zero35 _) bm n D rfl hown _ _ rfl hkey ?_; intro c hat hwc)
    | go_in)
  go_ret
  have := H0.out
  rw [hat] at this
  injection this with this
  injection this with _ this
  subst this
  exact ⟨rfl, rfl⟩

set_option maxHeartbeats 1000000 in
/-- s is new, the table has a map. -/
theorem id_new {O : Nat → Prop} {p bm : Nat} {L : List ByteArray} {so : Option Addr} {cap : Nat} {D : DataW Unit} {s : ByteArray} (w : World)
    (hp : w.heap[p]? = some (.cells #[.map (some bm), .slice so L.length cap] 45 (0, 0))) (hOp : ¬ O p) (hrow : RowPart w O L (.slice so L.length cap)) (hOb : ¬ O bm)
    (hown : w.ownsMap Trym.prog 9 (plainElem Trym.prog 35) bm L.length D) (hV : View D L) (hs : s ∉ L) (hO : ∀ k, O k → k < w.heap.size) (hsz : s.size ≤ 1048576) (hL : L.length ≤ 1048576) :
    Calls Trym.prog 19 #[.pointer (some ⟨p, 0, none⟩), .string s] w fun e w' => e = .returned (.int .u64 L.length) ∧ Keys w' O p (L ++ [s]) ∧ Kept O w w' := by
  have hkey := keyOf_string_mk (s := s) Trym.underlying9 (by unfold maxLen; omega)
  have hhas : Maps.has D (.string s.data.toList) = false := (hV.2.2.1 s).trans (inL_false.2 hs)
  have c0 := cellAt hp 0 rfl
  have c1 := cellAt hp 1 rfl
  have f1 := freeAt hp 1
  have hpl := lt_heap hp
  have hbl := hown.lt
  have hpb : p ≠ bm := apart_cells hown hp
  have hpg := apart_row hp hrow.1
  have qm : ∀ (w : World) (r : Option Nat), (binOp .eql 33 (.map r) (.map none)).run Trym.prog w = .ok (.bool r.isNone) w := fun w r => run_eql_map_nil w _ _ _ r Trym.underlying33
  obtain ⟨i0, hi, hz0, hz1, hz2⟩ := info_parts info9
  have HO : Hid (∀ k, O k → k < w.heap.size) := hO
  have HP : Hid (w.heap[p]? = some (.cells #[.map (some bm), .slice so L.length cap] 45 (0, 0))) := hp
  have HV : Hid (View D L) := hV
  clear hO hp hV
  go_enter Trym.func19, Trym.ntmps19
  go_wp2_with (first
    | (at_lookup; refine wpList_lookup_own_ok_int _ rfl _ _ 33 rfl 9 35 .u64 law9 Trym.underlying33 Trym.underlying35 (zero35 _) bm L.length D rfl hown _ _ rfl hkey ?_; intro c hat hwc)
    | fail)
  refine (clone22 s _ (by omega)).mono ?_
  rintro e w1 ⟨rfl, hb1⟩
  have c0' := (hb1.cell (p := ⟨p, 0, none⟩) hpl).trans c0
  have c1' := (hb1.cell (p := ⟨p, 1, none⟩) hpl).trans c1
  have hown1 := ownsMap_block hown (hb1.block bm hbl)
  clear c0 hhas
  have hrow1 : w1.ownsRow 0 9 1 (.slice so L.length cap) L.length (L.map Value.string) := ownsRow_block hrow.1 (fun k e => hb1.block k (hrow.1.lt k e).2)
  have s1 := hb1.size
  go_wp2_with (first
    | (at_mapUpdate; refine wpList_mapUpdate_own _ rfl _ _ _ 33 rfl 9 35 law9 Trym.underlying33 _ bm L.length _ rfl hown1 (by unfold maxLen; omega) _ _ _ rfl rfl hkey _ [] (plainElem_int Trym.underlying35 (wf_u64 hL)) ?_; intro w2 hown2 hg2; have c2 := (World.cell?_of_block (a := ⟨p, 1, none⟩) (hg2.block p (Nat.lt_of_lt_of_le hpl s1) (fun e => hpb (by injection e)))).trans c1'; have hrow2 := hrow1.kept hg2 (Or.inr (apart_map hown1 hrow1).symm); clear c1')
    | (at_builtin; refine wpList_append_own_at _ rfl _ _ 34 rfl 0 9 i0 (.string ⟨#[]⟩) 1 16 Trym.underlying34 hi hz0 hz1 hz2 rfl (by decide) _ _ _ rfl (hrow2.alloc _) ⟨w2.heap.size, 0, none⟩ 1 1 [.string s] rfl rfl (cell_one_new _ _ _) (strs_oneCell s) (by unfold maxLen; omega) (by omega) (Nat.zero_le _) ?_)
    | fail)
  intro v' w3 hown3 hg3 hnil hloc
  have hex : ∃ so' cap', v' = .slice so' (L.length + 1) cap' := by
    rcases hown3.2 with ⟨_, h⟩ | ⟨g, cap', cur, h, _⟩
    · omega
    · exact ⟨_, _, h⟩
  obtain ⟨so', cap', hv⟩ := hex
  rw [hv] at hown3 hloc ⊢
  clear hv hnil
  have hg2' := hg2.size
  have hg3' := hg3.size
  have hp3 : w3.heap[p]? = some (.cells #[.map (some bm), .slice so L.length cap] 45 (0, 0)) := (hg3.block p (by simp; omega) hpg).trans ((Below.heap_alloc _ _ _ (by omega)).trans ((hg2.block p (by omega) (fun e => hpb (by injection e))).trans ((hb1.block p hpl).trans HP.out)))
  have c3 := freeAt hp3 1
  have c3' := cellAt hp3 1 rfl
  have FIN : Hid (Keys (w3.setCell ⟨p, 1, none⟩ (.slice so' (L.length + 1) cap')) O p (L ++ [s]) ∧ Kept O w (w3.setCell ⟨p, 1, none⟩ (.slice so' (L.length + 1) cap'))) :=
    id_end HP.out hOp hrow hOb hown HV.out hs HO.out hb1 hown2 hg2 hown3 hg3 (by rw [World.size_alloc]; exact hloc)
  clear hown3 hg3 hloc hown2 hg2 hown1 hrow1 hrow2 hp3
  go_wp2
  go_ret
  exact ⟨rfl, FIN.out⟩

theorem first_state {O : Nat → Prop} {p : Nat} {so : Option Addr} {cap : Nat} {w W0 : World}
    (hp : w.heap[p]? = some (.cells #[.map none, .slice so 0 cap] 45 (0, 0))) (hOp : ¬ O p) (hrow : RowPart w O [] (.slice so 0 cap)) (hO : ∀ k, O k → k < w.heap.size)
    (hW0 : W0 = (w.setCell ⟨p, 0, none⟩ (.map (some w.heap.size))).alloc (.map #[] 0)) :
    W0.heap[p]? = some (.cells #[.map (some w.heap.size), .slice so 0 cap] 45 (0, 0)) ∧ RowPart W0 O [] (.slice so 0 cap) ∧ ¬ O w.heap.size ∧ W0.ownsMap Trym.prog 9 (plainElem Trym.prog 35) w.heap.size 0 (.map [] : DataW Unit) ∧
      (∀ k, O k → k < W0.heap.size) ∧ Kept O w W0 := by
  have hpl := lt_heap hp
  have hsz : (w.setCell ⟨p, 0, none⟩ (.map (some w.heap.size))).heap.size = w.heap.size := by simp [World.setCell]
  have hpg := apart_row hp hrow.1
  have hmade := World.ownsMap_made (H := Unit) (w.setCell ⟨p, 0, none⟩ (.map (some w.heap.size))) Trym.prog 9 (plainElem Trym.prog 35)
  rw [hsz] at hmade
  have hk : Kept O w (w.setCell ⟨p, 0, none⟩ (.map (some w.heap.size))) := Kept.of_setCell _ _ _ hOp
  subst hW0
  refine ⟨?_, ⟨?_, hrow.2⟩, fun h => Nat.lt_irrefl _ (hO _ h), hmade, fun k h => ?_, hk.trans (Kept.of_alloc _ _ (fun k h => by rw [hsz]; exact hO k h))⟩
  · rw [Below.heap_alloc _ _ _ (by omega)]
    simp only [World.setCell, Array.getElem?_modify, if_true, hp, Option.map_some]
    simp
  · exact ownsRow_block hrow.1 (fun k e => (Below.heap_alloc _ _ _ (by rw [hsz]; exact (hrow.1.lt k e).2)).trans (Below.heap_setCell _ _ _ _ (fun e' => hpg (by rw [e, e']))))
  · have := hO k h
    simp
    omega

set_option maxHeartbeats 1000000 in
/-- The table has no map yet. -/
theorem id_first {O : Nat → Prop} {p : Nat} {so : Option Addr} {cap : Nat} {s : ByteArray} (w : World)
    (hp : w.heap[p]? = some (.cells #[.map none, .slice so 0 cap] 45 (0, 0))) (hOp : ¬ O p) (hrow : RowPart w O [] (.slice so 0 cap)) (hO : ∀ k, O k → k < w.heap.size) (hsz : s.size ≤ 1048576) :
    Calls Trym.prog 19 #[.pointer (some ⟨p, 0, none⟩), .string s] w fun e w' => e = .returned (.int .u64 0) ∧ Keys w' O p [s] ∧ Kept O w w' := by
  have hkey := keyOf_string_mk (s := s) Trym.underlying9 (by unfold maxLen; omega)
  have c0 : w.cell? ⟨p, 0, none⟩ = some (.map none) := cellAt hp 0 rfl
  have f0 := freeAt hp 0
  have hpl := lt_heap hp
  have hmm := @run_makeMap Trym.prog
  have hrun := look_nil (w := w) true law9 Trym.underlying33 (zero35 _) hkey
  have qm : ∀ (w : World) (r : Option Nat), (binOp .eql 33 (.map r) (.map none)).run Trym.prog w = .ok (.bool r.isNone) w := fun w r => run_eql_map_nil w _ _ _ r Trym.underlying33
  have HO : Hid (∀ k, O k → k < w.heap.size) := hO
  have HP : Hid (w.heap[p]? = some (.cells #[.map none, .slice so 0 cap] 45 (0, 0))) := hp
  clear hO hp
  go_enter Trym.func19, Trym.ntmps19
  go_wp2_with fail
  obtain ⟨W0, hW0⟩ : ∃ W0, W0 = (w.setCell ⟨p, 0, none⟩ (.map (some w.heap.size))).alloc (.map #[] 0) := ⟨_, rfl⟩
  rw [← hW0]
  obtain ⟨hp0, hrow0, hOb, hown0, hO0, hK0⟩ := first_state HP.out hOp hrow HO.out hW0
  obtain ⟨bm, hbm⟩ : ∃ bm, bm = w.heap.size := ⟨_, rfl⟩
  rw [← hbm] at hp0 hOb hown0
  clear hW0 c0 f0 hrun hbm HP
  have hpl := lt_heap hp0
  have hbl := hown0.lt
  have hpb : p ≠ bm := apart_cells hown0 hp0
  have hpg := apart_row hp0 hrow0.1
  have c0 : W0.cell? ⟨p, 0, none⟩ = some (.map (some bm)) := cellAt hp0 0 rfl
  have c1 : W0.cell? ⟨p, 1, none⟩ = some (.slice so 0 cap) := cellAt hp0 1 rfl
  have HP : Hid (W0.heap[p]? = some (.cells #[.map (some bm), .slice so 0 cap] 45 (0, 0))) := hp0
  have HO0 : Hid (∀ k, O k → k < W0.heap.size) := hO0
  clear hp0 hO0
  obtain ⟨i0, hi, hz0, hz1, hz2⟩ := info_parts info9
  refine (clone22 s _ (by omega)).mono ?_
  rintro e w1 ⟨rfl, hb1⟩
  have c0' := (hb1.cell (p := ⟨p, 0, none⟩) hpl).trans c0
  have c1' := (hb1.cell (p := ⟨p, 1, none⟩) hpl).trans c1
  have hown1 := ownsMap_block hown0 (hb1.block bm hbl)
  clear c0
  have hrow1 : w1.ownsRow 0 9 1 (.slice so 0 cap) 0 [] := ownsRow_block hrow0.1 (fun k e => hb1.block k (hrow0.1.lt k e).2)
  have s1 := hb1.size
  go_wp2_with (first
    | (at_mapUpdate; refine wpList_mapUpdate_own _ rfl _ _ _ 33 rfl 9 35 law9 Trym.underlying33 _ bm 0 _ rfl hown1 (by decide) _ _ _ rfl rfl hkey _ [] (plainElem_int Trym.underlying35 (by decide)) ?_; intro w2 hown2 hg2; have c2 := (World.cell?_of_block (a := ⟨p, 1, none⟩) (hg2.block p (Nat.lt_of_lt_of_le hpl s1) (fun e => hpb (by injection e)))).trans c1'; have hrow2 := hrow1.kept hg2 (Or.inr (apart_map hown1 hrow1).symm); clear c1')
    | (at_builtin; refine wpList_append_own_at _ rfl _ _ 34 rfl 0 9 i0 (.string ⟨#[]⟩) 1 16 Trym.underlying34 hi hz0 hz1 hz2 rfl (by decide) _ _ _ rfl (hrow2.alloc _) ⟨w2.heap.size, 0, none⟩ 1 1 [.string s] rfl rfl (cell_one_new _ _ _) (strs_oneCell s) (by decide) (by omega) (Nat.zero_le _) ?_)
    | fail)
  intro v' w3 hown3 hg3 hnil hloc
  have hex : ∃ so' cap', v' = .slice so' 1 cap' := by
    rcases hown3.2 with ⟨_, h⟩ | ⟨g, cap', cur, h, _⟩
    · omega
    · exact ⟨_, _, h⟩
  obtain ⟨so', cap', hv⟩ := hex
  rw [hv] at hown3 hloc ⊢
  clear hv hnil
  have hg2' := hg2.size
  have hg3' := hg3.size
  have hp3 : w3.heap[p]? = some (.cells #[.map (some bm), .slice so 0 cap] 45 (0, 0)) := (hg3.block p (by simp; omega) hpg).trans ((Below.heap_alloc _ _ _ (by omega)).trans ((hg2.block p (by omega) (fun e => hpb (by injection e))).trans ((hb1.block p hpl).trans HP.out)))
  have c3 := freeAt hp3 1
  have c3' : w3.cell? ⟨p, 1, none⟩ = some (.slice so 0 cap) := cellAt hp3 1 rfl
  have FIN : Hid (Keys (w3.setCell ⟨p, 1, none⟩ (.slice so' 1 cap')) O p ([] ++ [s]) ∧ Kept O W0 (w3.setCell ⟨p, 1, none⟩ (.slice so' 1 cap'))) :=
    id_end (L := []) HP.out hOp hrow0 hOb hown0 View.nil (List.not_mem_nil) HO0.out hb1 hown2 hg2 hown3 hg3 (by rw [World.size_alloc]; exact hloc)
  clear hown3 hg3 hloc hown2 hg2 hown1 hrow1 hrow2 hp3
  go_wp2
  go_ret
  exact ⟨rfl, FIN.out.1, hK0.trans FIN.out.2⟩

/-- THE CONTRACT OF '(*keys).id'. -/
theorem id19 {O : Nat → Prop} {p : Nat} {L : List ByteArray} {s : ByteArray} (w : World) (hK : Keys w O p L) (hO : ∀ k, O k → k < w.heap.size) (hsz : s.size ≤ 1048576) (hL : L.length ≤ 1048576) :
    Calls Trym.prog 19 #[.pointer (some ⟨p, 0, none⟩), .string s] w fun e w' => e = .returned (.int .u64 (ix L s)) ∧ Keys w' O p (ins L s) ∧ Kept O w w' := by
  obtain ⟨mo, so, cap, hp, hOp, hrow, hmap⟩ := hK
  cases mo with
  | none =>
    have hL0 : L = [] := hmap
    subst hL0
    exact id_first w hp hOp hrow hO hsz
  | some bm =>
    obtain ⟨hOb, D, hown, hV⟩ := hmap
    by_cases hs : s ∈ L
    · have e1 : ins L s = L := by rw [ins, inL_iff.2 hs]; rfl
      rw [e1]
      refine (id_old w (cellAt hp 0 rfl) hown ((hV.2.2.1 s).trans (inL_iff.2 hs)) (hV.number hs) hsz).mono ?_
      rintro e w' ⟨rfl, rfl⟩
      exact ⟨rfl, ⟨some bm, so, cap, hp, hOp, hrow, hOb, D, hown, hV⟩, Kept.refl _ _⟩
    · have e1 : ins L s = L ++ [s] := by rw [ins, inL_false.2 hs]; rfl
      rw [e1, ix_none hs]
      exact id_new w hp hOp hrow hOb hown hV hs hO hsz hL

/-- .. and of ZZKeysID, which hands the call on. -/
theorem id14 {O : Nat → Prop} {p : Nat} {L : List ByteArray} {s : ByteArray} (w : World) (hK : Keys w O p L) (hO : ∀ k, O k → k < w.heap.size) (hsz : s.size ≤ 1048576) (hL : L.length ≤ 1048576) :
    Calls Trym.prog 14 #[.pointer (some ⟨p, 0, none⟩), .string s] w fun e w' => e = .returned (.int .u64 (ix L s)) ∧ Keys w' O p (ins L s) ∧ Kept O w w' := by
  have H := id19 w hK hO hsz hL
  have HH : Hid (Calls Trym.prog 19 #[.pointer (some ⟨p, 0, none⟩), .string s] w fun e w' => e = .returned (.int .u64 (ix L s)) ∧ Keys w' O p (ins L s) ∧ Kept O w w') := H
  clear H
  go_enter Trym.func14, Trym.ntmps14
  go_wp2_with (go_at_call 19; refine HH.out.mono ?_; rintro e w' ⟨rfl, hK', hk'⟩)
  go_ret
  exact ⟨rfl, hK', hk'⟩

end Go.Proofs.Qxb6003653aMods
