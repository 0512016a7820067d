/- Lemmas outside the walk of FnSkipThenPositionsAppends. -/
import Derived.Test.Qxb6600598aModsRange
namespace Go.Proofs.Qxb6600598aMods
open Go.RowKit

/-- The first position. -/
def fst0 (Z : Nat → Int) (ln : Nat) (P : Nat → Int) : Int := if ln = 0 then P 0 else Z 0
/-- The entries behind the skips: those that were there, then the offsets. -/
def app (Z : Nat → Int) (ln : Nat) (P : Nat → Int) (i : Nat) : Int := if i < ln then Z i else P (i - ln) - (if i = 0 then 0 else fst0 Z ln P)

theorem app_old {Z P : Nat → Int} {ln i : Nat} (h : i < ln) : app Z ln P i = Z i := by unfold app; rw [if_pos h]
theorem app_zero (Z P : Nat → Int) (ln : Nat) : app Z ln P 0 = fst0 Z ln P := by
  unfold app fst0
  by_cases h : ln = 0
  · subst h; simp
  · rw [if_pos (by omega), if_neg h]
theorem app_new (Z P : Nat → Int) (ln k : Nat) : app Z ln P (ln + k) = P k - (if ln + k = 0 then 0 else app Z ln P 0) := by
  rw [app_zero]
  unfold app
  rw [if_neg (by omega), Nat.add_sub_cancel_left]

theorem app_bounds {Z P : Nat → Int} {ln pn : Nat} (hZ : ∀ i, i < ln → -2147483648 ≤ Z i ∧ Z i ≤ 2147483647) (h : InRange Z ln P pn) : ∀ i, i < ln + pn → -2147483648 ≤ app Z ln P i ∧ app Z ln P i ≤ 2147483647 := by
  intro i hi
  by_cases hl : i < ln
  · rw [app_old hl]; exact hZ i hl
  · obtain ⟨k, rfl⟩ : ∃ k, i = ln + k := ⟨i - ln, by omega⟩
    rcases h with h | ⟨base, hb, b0, b1, ha⟩
    · omega
    · have hk := ha k (by omega)
      rw [app_new, app_zero]
      have e : fst0 Z ln P = base := hb.symm
      rw [e]
      split
      · rename_i h0
        obtain rfl : k = 0 := by omega
        obtain rfl : ln = 0 := by omega
        rw [if_pos rfl] at hb
        omega
      · omega

theorem app_zero_bounds {Z P : Nat → Int} {ln pn : Nat} (hZ : ∀ i, i < ln → -2147483648 ≤ Z i ∧ Z i ≤ 2147483647) (h : InRange Z ln P pn) (hp : 0 < pn) : -2147483648 ≤ app Z ln P 0 ∧ app Z ln P 0 ≤ 2147483647 :=
  app_bounds hZ h 0 (by omega)

theorem pos_old {Z P : Nat → Int} {ln i : Nat} (h : i < ln) : pos (app Z ln P) i = pos Z i := by
  unfold pos
  rw [app_old h, app_old (show 0 < ln by omega)]
theorem pos_new (Z P : Nat → Int) (ln k : Nat) : pos (app Z ln P) (ln + k) = P k := by
  unfold pos
  by_cases h : ln + k = 0
  · obtain rfl : k = 0 := by omega
    obtain rfl : ln = 0 := by omega
    rw [if_pos rfl, app_zero]
    rfl
  · rw [if_neg h, app_new, if_neg h]
    omega

theorem row_congr {q : IntKind} {F G : Nat → Int} {n : Nat} (h : ∀ i, i < n → F i = G i) : row q F n = row q G n := by
  unfold row
  apply List.map_congr_left
  intro i hi
  rw [h i (List.mem_range.1 hi)]

/-- The blocks that 'skip' lets alone: all that were there but the snapshot's and its row's. -/
def Oset (w : World) (p : Nat) (v : Value) : Nat → Prop := fun b => b < w.heap.size ∧ b ≠ p ∧ some b ≠ v.ownBlock

/-- The snapshot as the law lays it, in a later world. -/
theorem snap_start {w5 : World} {p : Nat} {m : Int} {al ab : Value} {so : Option Addr} {ln c : Nat} {Z P : Nat → Int} (hp : w5.heap[p]? = some (.cells #[.int .i32 m, al, ab, .slice so ln c] 35 (0, 0)))
    (hrow : w5.ownsRow 0 21 1 (.slice so ln c) ln (row .i32 Z ln)) : Snap w5 (Oset w5 p (.slice so ln c)) p m al ab (app Z ln P) (ln + 0) := by
  refine ⟨so, c, hp, fun h => h.2.1 rfl, ?_, fun k e h => h.2.2 e.symm⟩
  have e : row .i32 (app Z ln P) (ln + 0) = row .i32 Z ln := row_congr (fun i hi => app_old hi)
  rw [e]
  exact hrow

theorem ownsRow_base {w : World} {base n : Nat} {E : TypeId} {v : Value} {xs : List Value} (h : w.ownsRow base E 1 v n xs) : w.ownsRow 0 E 1 v n xs := by
  refine ⟨h.1, ?_⟩
  rcases h.2 with hn | ⟨g, cap, cur, hv, _, r⟩
  · exact .inl hn
  · exact .inr ⟨g, cap, cur, hv, Nat.zero_le _, r⟩

/-- A slice whose block lies in O reads on. -/
theorem Reads.kept {w w' : World} {O : Nat → Prop} {q : IntKind} {so : Option Addr} {n : Nat} {F : Nat → Int} (h : Reads w q so n F) (hk : Kept O w w') (hO : ∀ a : Addr, so = some a → 0 < n → O a.block) : Reads w' q so n F := by
  refine ⟨h.1, fun i hi => ?_⟩
  obtain ⟨ad, e, hc⟩ := h.2 i hi
  have e1 : (ad.add i).block = ad.block := by unfold Addr.add; split <;> rfl
  exact ⟨ad, e, (World.cell?_of_block (by rw [e1]; exact hk.block _ (hO ad e (by omega)))).trans hc⟩

theorem own_block {w : World} {base n : Nat} {E : TypeId} {so : Option Addr} {cap : Nat} {xs : List Value} (h : w.ownsRow base E 1 (.slice so n cap) n xs) (a : Addr) (e : so = some a) : base ≤ a.block ∧ a.block < w.heap.size := by
  subst e
  exact h.lt a.block rfl

/-- What the walk holds when the skips begin. -/
theorem app_start {w w1 w2 w3 w5 : World} {m : Int} {al ab : Value} {s1 s2 s3 : Option Addr} {ln pn c1 c2 c3 : Nat} {Z P : Nat → Int}
    (hown1 : w1.ownsRow w.heap.size 21 1 (.slice s1 ln c1) ln (row .i32 Z ln)) (hb1 : Below w.heap.size w w1)
    (hown2 : w2.ownsRow w1.heap.size 3 1 (.slice s2 pn c2) pn (row .i64 P pn)) (hb2 : Below w1.heap.size w1 w2)
    (hown3 : w3.ownsRow w2.heap.size 21 1 (.slice s3 ln c3) ln (row .i32 Z ln)) (hb3 : Below w2.heap.size w2 w3)
    (hown5 : w5.ownsRow (w3.heap.size + 1) 3 1 (.slice (some ⟨w3.heap.size + 1, 0, none⟩) ln ln) ln (row .i64 (pos Z) ln))
    (hb5 : Below (w3.heap.size + 1) (w3.alloc (.cells #[.int .i32 m, al, ab, .slice s1 ln c1] 35)) w5) :
    Snap w5 (Oset w5 w3.heap.size (.slice s1 ln c1)) w3.heap.size m al ab (app Z ln P) (ln + 0) ∧
    (Reads w5 .i64 s2 pn P ∧ ∀ a : Addr, s2 = some a → 0 < pn → Oset w5 w3.heap.size (.slice s1 ln c1) a.block) ∧
    (Reads w5 .i32 s3 ln Z ∧ ∀ a : Addr, s3 = some a → 0 < ln → Oset w5 w3.heap.size (.slice s1 ln c1) a.block) ∧
    (Reads w5 .i64 (some ⟨w3.heap.size + 1, 0, none⟩) ln (pos Z) ∧ Oset w5 w3.heap.size (.slice s1 ln c1) (w3.heap.size + 1)) ∧
    Below w.heap.size w w5 ∧ (∀ b, b < w.heap.size → Oset w5 w3.heap.size (.slice s1 ln c1) b) := by
  have z1 := hb1.size
  have z2 := hb2.size
  have z3 := hb3.size
  have z5 := hb5.size
  rw [World.size_alloc] at z5
  have hba := (Below.refl w3.heap.size w3).alloc (Nat.le_refl _) (.cells #[.int .i32 m, al, ab, .slice s1 ln c1] 35)
  have h35 : Below w3.heap.size w3 w5 := hba.trans (hb5.mono (Nat.le_succ _))
  have hp5 : w5.heap[w3.heap.size]? = some (.cells #[.int .i32 m, al, ab, .slice s1 ln c1] 35 (0, 0)) := (hb5.block _ (Nat.lt_succ_self _)).trans (heap_alloc_new w3 _)
  have l1 : ∀ k, (Value.slice s1 ln c1).ownBlock = some k → w.heap.size ≤ k ∧ k < w1.heap.size := fun k e => hown1.lt k e
  have hrow5 : w5.ownsRow w.heap.size 21 1 (.slice s1 ln c1) ln (row .i32 Z ln) := ownsRow_block hown1 (fun k e => by
    have := l1 k e
    exact (h35.block k (by omega)).trans ((hb3.block k (by omega)).trans (hb2.block k (by omega))))
  refine ⟨snap_start hp5 (ownsRow_base hrow5), ⟨(((reads_of_owns hown2).all hb3).all h35), fun a e _ => ?_⟩, ⟨(reads_of_owns hown3).all h35, fun a e _ => ?_⟩, ⟨reads_of_owns hown5, ?_⟩, ?_, fun b hb => ?_⟩
  · have h := own_block hown2 a e
    refine ⟨by omega, by omega, fun e' => ?_⟩
    have := l1 _ e'.symm
    omega
  · have h := own_block hown3 a e
    refine ⟨by omega, by omega, fun e' => ?_⟩
    have := l1 _ e'.symm
    omega
  · have h := (hown5.lt _ rfl).2
    refine ⟨h, by omega, fun e' => ?_⟩
    have := l1 _ e'.symm
    omega
  · exact ((hb1.trans (hb2.mono z1)).trans (hb3.mono (Nat.le_trans z1 z2))).trans (h35.mono (by omega))
  · refine ⟨by omega, by omega, fun e' => ?_⟩
    have := l1 _ e'.symm
    omega

end Go.Proofs.Qxb6600598aMods
