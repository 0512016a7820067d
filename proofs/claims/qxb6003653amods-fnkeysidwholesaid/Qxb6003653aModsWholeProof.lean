/- THE STATEMENT 'Rows.FnKeysIDWholeSaid', proved. -/
import Derived.Test.Qxb6003653aModsRows
import Derived.Test.Qxb6003653aModsWhole
import Derived.WalkKit
import Derived.ProofKit
import Derived.OpenShut
import Derived.ShutString
import Derived.ChangeOld
import Derived.Below
import Derived.Deep.Strs
namespace Go.Proofs.Qxb6003653aMods.fnKeysIDWhole
open Go.ChangeShapes Go.WideShapes Go.ChangeAt Go.RowKit Go.WideElems Go.Maps
open Go.ChangeMaps (open_string shut_string)
open Go.WideMaps (keyOf_string_mk)
open Go.Deep (open_strs)
set_option linter.unusedVariables false

theorem own : ownKnob Trym.prog.godebug = none := by kernel_rfl
theorem laidOut : laidOutB Trym.prog = true := by kernel_rfl

/-- What the walk is told of the map that came in: its length, and what a look-up gives. -/
def IsIds (w : World) (mo : Option Nat) (N : Nat) (lk : ByteArray → Int) (okf : ByteArray → Bool) : Prop :=
  (∀ ty, (Builtin.len_ #[33] ty #[.map mo]).run Trym.prog w = .ok (.int .i64 N) w) ∧
  (∀ x, x.size ≤ maxLen → (Instr.lookup 33 (.map mo) (.string x) true).run Trym.prog w = .ok (.tuple #[.int .u64 (lk x), .bool (okf x)]) w) ∧ (mo = none → N = 0) ∧ N ≤ maxLen

theorem ids_nil (w : World) : IsIds w none 0 (fun _ => 0) (fun _ => false) :=
  ⟨fun ty => len_nil Trym.underlying33 ty, fun x hx => look_nil true law9 Trym.underlying33 (zero35 w) (keyOf_string_mk Trym.underlying9 hx), fun _ => rfl, Nat.zero_le _⟩

theorem ids_some {H : Type} {w : World} {b n : Nat} {D : DataW H} (hown : w.ownsMap Trym.prog 9 (plainElem Trym.prog 35) b n D) (hn : n ≤ maxLen) : ∃ N lk okf, IsIds w (some b) N lk okf := by
  have hl : ∀ x : ByteArray, x.size ≤ maxLen → ∃ c, (Instr.lookup 33 (.map (some b)) (.string x) true).run Trym.prog w = .ok (.tuple #[.int .u64 c, .bool (Maps.has D (key x))]) w := fun x hx => by
    obtain ⟨v, ps, hrun, hv⟩ := hown.look_ok law9 Trym.underlying33 (zero35 w) (plainElem_int Trym.underlying35 (a := 0) (by decide)) (keyOf_string_mk Trym.underlying9 hx)
    obtain ⟨c, rfl, _, _⟩ := plainElem_int_inv Trym.underlying35 hv
    exact ⟨c, hrun⟩
  refine ⟨Maps.size D, fun x => if h : x.size ≤ maxLen then Classical.choose (hl x h) else 0, fun x => Maps.has D (key x), fun ty => hown.len Trym.underlying33 ty, fun x hx => ?_, fun h => (by cases h), Nat.le_trans hown.size_le hn⟩
  show _ = Result.ok (Value.tuple #[Value.int IntKind.u64 (if h : x.size ≤ maxLen then Classical.choose (hl x h) else 0), Value.bool (Maps.has D (key x))]) w
  rw [dif_pos hx]
  exact Classical.choose_spec (hl x hx)

set_option maxRecDepth 100000 in
theorem lifted (os : Os) (started : os.Started) (H : Type) (enc : TypeId × Value → H) :
    ReturnsInHanded {} Trym.checked os 5 .any (Rows.fnKeysIDWholeSpec.pre6 enc Trym.prog Trym.f5 Rows.fnKeysIDWholeRow.domain false) (Rows.fnKeysIDWholeSpec.post enc Trym.prog Trym.f5 false true false false) := by
  refine returnsInHanded_of_change (C := Trym.checked) own started (by kernel_rfl) Trym.func5
    (ChangeSpec.witness6 (enc := enc) (C := Trym.checked) false ⟨#[], #[.map none, .slice none 0 0, .string ⟨#[]⟩], []⟩ 8 (by kernel_rfl) (by kernel_rfl) (by kernel_rfl) (by kernel_rfl)) ?_
  intro W base args ds gs before hval0 hW hcnd _
  have hval : ∀ (j : Nat) t v, Trym.f5.params[j]? = some t → args[j]? = some v → Value.okWide Trym.prog W .any base t v := hval0
  have hW' := hW
  obtain ⟨p, q, hA0, hV, rfl, hfz, hnd⟩ := hW
  have hA : DataW.TrodAll enc Trym.prog W 0 (fun _ => true) true Trym.f5.params.toList args.toList ds p := hA0
  rw [Trym.params5] at hA hval
  obtain ⟨v0, vs0, d0, ds0, p0, q0, hargs, rfl, rfl, h0, r0⟩ := trodAll_cons hA
  obtain ⟨v1, vs1, d1, ds1, p1, q1, rfl, rfl, rfl, h1, r1⟩ := trodAll_cons r0
  obtain ⟨v2, vs2, d2, ds2, p2, q2, rfl, rfl, rfl, h2, r2⟩ := trodAll_cons r1
  obtain ⟨rfl, rfl, rfl⟩ := trodAll_nil r2
  obtain rfl : args = #[v0, v1, v2] := by cases args; simp_all
  obtain ⟨rfl, rfl⟩ := trodVars_none hV
  obtain ⟨mo, rfl⟩ := okWide_map Trym.underlying33 (hval 0 33 v0 rfl rfl)
  obtain ⟨ao, len, cap, rfl⟩ := okWide_slice Trym.underlying34 (hval 1 34 v1 rfl rfl)
  obtain ⟨s, rfl, rfl, rfl, hs⟩ := open_string Trym.underlying9 (hval 2 9 v2 rfl rfl) h2
  have k0 := h0
  have k1 := h1
  have lt0 : ∀ x ∈ p0, x.block < W.heap.size := by obtain ⟨m, hm⟩ := k0; exact DataW.trod_lt m _ _ _ hm
  have lt1 : ∀ x ∈ p1, x.block < W.heap.size := by obtain ⟨m, hm⟩ := k1; exact DataW.trod_lt m _ _ _ hm
  obtain ⟨N, lk, okf, hids⟩ : ∃ N lk okf, IsIds W mo N lk okf := by
    obtain ⟨fuel, hf⟩ := h0
    rcases open_map Trym.underlying33 hf with ⟨hcs, hx⟩ | ⟨bm, es, clock, m, rfl, hcs, hb, _, F, hx⟩
    · simp [Value.cells] at hcs
      subst hcs
      exact ⟨_, _, _, ids_nil W⟩
    · simp [Value.cells] at hcs
      subst hcs
      have hown := World.ownsMap_of_fit (R := plainElem Trym.prog 35) hb F (fun x _ z hz => elemAt_plainElem_int Trym.underlying35 hz)
      exact ids_some hown F.size
  obtain ⟨S, hao, hlen, hcell⟩ : ∃ S : Nat → ByteArray, (ao = none → len = 0) ∧ len ≤ maxLen ∧ ∀ i, i < len → ∃ ad, ao = some ad ∧ W.cell? (ad.add i) = some (.string (S i)) ∧ (S i).size ≤ maxLen := by
    obtain ⟨fuel, hf⟩ := h1
    rcases open_strs Trym.underlying34 Trym.underlying9 (by kernel_rfl) hf with ⟨hcs, _⟩ | ⟨a, l, c, m, Sx, hcs, _, hl, hm, hmm, _, hcell⟩
    · simp [Value.cells] at hcs
      obtain ⟨rfl, rfl, rfl⟩ := hcs
      exact ⟨fun _ => ByteArray.empty, fun _ => rfl, Nat.zero_le _, fun i hi => by omega⟩
    · simp [Value.cells] at hcs
      obtain ⟨rfl, rfl, rfl⟩ := hcs
      refine ⟨Sx, fun h => (by cases h), Nat.le_trans hl hm, fun i hi => ⟨a, rfl, hcell i ?_⟩⟩
      simp at hmm
      omega
  clear hA0 hval0
  refine (whole_walk mo N lk okf ao len cap S s W hids.1 hids.2.1 hids.2.2.1 hids.2.2.2 hlen hao hcell hs).mono fun e W' ⟨he, bel⟩ => ?_
  subst he
  exact ⟨_, rfl, _, _, _, [], _, [], hW', trodAll_mk1 (shut_bool Trym.underlying4 _), (trodAll_cons_mk (Below.trod laidOut (by kernel_rfl) (of_decide_eq_true (by kernel_rfl)) k0 bel lt0) (trodAll_cons_mk (Below.trod laidOut (by kernel_rfl) (of_decide_eq_true (by kernel_rfl)) k1 bel lt1) (trodAll_cons_mk (shut_string Trym.underlying9 hs) trodAll_mk0))), rfl, bel.frame _, fun h => by cases h⟩

theorem over : Rows.fnKeysIDWholeRow.holds Trym.pinned (OpenSpec.ofChange Rows.fnKeysIDWholeSpec) :=
  OpenClaim.holds_of_wide 5 Trym.f5 rfl rfl rfl rfl rfl rfl rfl ⟨rfl, rfl, rfl, rfl, rfl⟩ rfl rfl rfl rfl rfl (by kernel_rfl) Trym.func5 (by kernel_rfl)
    (of_decide_eq_true (by kernel_rfl)) (by unfold Func.isWrapper; first | (rw [if_pos (by decide +kernel)]; kernel_rfl) | (rw [if_neg (by decide +kernel)]; exact ⟨rfl, rfl⟩))
    (fun os started H enc _ => lifted os started H enc)

theorem proved : Rows.FnKeysIDWholeSaid := over
end Go.Proofs.Qxb6003653aMods.fnKeysIDWhole
