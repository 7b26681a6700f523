/-
  THE ROW's STEP of FnApartKeepsWithMoreLastsOrFewerFirsts, after the guide's template: four arrays by value are opened, the walk is Qxb6600446aLaw's.
-/
import Derived.Test.Qxb6600446aRows
import Derived.Test.Qxb6600446aLaw
import Derived.WalkKit
import Derived.ProofKit
import Derived.OpenShut
import Derived.ShutString
import Derived.ChangeOld
import Derived.Below
namespace Go.Proofs.Qxb6600446a.fnApartKeepsWithMoreLastsOrFewerFirsts
open Go.ChangeShapes Go.WideShapes Go.ChangeAt Go.RowKit
set_option linter.unusedVariables false

theorem own : ownKnob Try.prog.godebug = none := by kernel_rfl
theorem laidOut : laidOutB Try.prog = true := by kernel_rfl
theorem cells40 : Try.prog.cellsOf 40 = 1 := by kernel_rfl
theorem cells42 : Try.prog.cellsOf 42 = 256 := by kernel_rfl

/-- The words of an array value. -/
def wordsOf (c : Array Value) (i : Nat) : Nat := match c[i]? with
  | some (.int _ z) => if z < 18446744073709551616 then z.toNat else 0
  | _ => 0

theorem wordsOf_lt (c : Array Value) (i : Nat) : wordsOf c i < 2 ^ 64 := by
  have e64 : (2 : Nat) ^ 64 = 18446744073709551616 := by decide
  rw [e64]
  unfold wordsOf
  split
  · split
    · omega
    · omega
  · omega

/-- A [256]uint64 by value, opened. -/
theorem open_row {H : Type} {enc : TypeId × Value → H} {W : World} {base : Nat} {v : Value} {d : DataW H} {p : List MemPlace}
    (hv : Value.okWide Try.prog W .any base 42 v) (h : DataW.Trod enc Try.prog W 0 (fun _ => true) true 42 v d p) : ∃ c, v = .agg c ∧ Row c (wordsOf c) := by
  simp only [Value.okWide, Try.underlying42] at hv
  obtain ⟨c, rfl, hsz, _⟩ := hv
  rw [cells42] at hsz
  refine ⟨c, rfl, hsz, fun i hi => ?_, wordsOf_lt c⟩
  obtain ⟨fuel, hf⟩ := h
  obtain ⟨xs, m, _, _, _, hxl, hel⟩ := DataW.trod_array Try.underlying42 hf
  have hi' := hel i hi
  rw [cells40, Nat.mul_one, List.getElem?_eq_getElem (by omega)] at hi'
  obtain ⟨z, e1, _, wz⟩ := DataW.trod_int Try.underlying40 hi'
  have hci : c[i]? = some (.int .u64 z) := by
    have e2 := congrArg (fun l => l[0]?) e1
    simp only [List.getElem?_take, List.getElem?_drop] at e2
    simpa [Value.cells] using e2
  have bz := bounds_u64 wz
  rw [hci]
  have : wordsOf c i = z.toNat := by
    unfold wordsOf
    rw [hci]
    simp only
    rw [if_pos (by omega)]
  rw [this]
  congr 2
  omega

set_option maxRecDepth 100000 in
theorem lifted (os : Os) (started : os.Started) (H : Type) (enc : TypeId × Value → H) :
    ReturnsInHanded {} Try.checked os 8 .any (Rows.fnApartKeepsWithMoreLastsOrFewerFirstsSpec.pre6 enc Try.prog Try.f8 Rows.fnApartKeepsWithMoreLastsOrFewerFirstsRow.domain false) (Rows.fnApartKeepsWithMoreLastsOrFewerFirstsSpec.post enc Try.prog Try.f8 false true false false) := by
  refine returnsInHanded_of_change (C := Try.checked) own started (by kernel_rfl) Try.func8
    (ChangeSpec.witness6 (enc := enc) (C := Try.checked) false ⟨#[], #[.agg (Array.replicate 256 (.int .u64 0)), .agg (Array.replicate 256 (.int .u64 0)), .agg (Array.replicate 256 (.int .u64 0)), .agg (Array.replicate 256 (.int .u64 0))], []⟩ 8 (by kernel_rfl) (by kernel_rfl) (by kernel_rfl) (by kernel_rfl)) ?_
  intro W base args ds gs before hval0 hW hcnd _
  have hval : ∀ (j : Nat) t v, Try.f8.params[j]? = some t → args[j]? = some v → Value.okWide Try.prog W .any base t v := hval0
  have hW' := hW
  obtain ⟨p, q, hA0, hV, rfl, hfz, hnd⟩ := hW
  have hA : DataW.TrodAll enc Try.prog W 0 (fun _ => true) true Try.f8.params.toList args.toList ds p := hA0
  rw [Try.params8] at hA hval
  obtain ⟨v0, vs0, d0, ds0, p0, q0, hargs, rfl, rfl, h0, r0⟩ := trodAll_cons hA
  obtain ⟨v1, vs1, d1, ds1, p1, q1, rfl, rfl, rfl, h1, r1⟩ := trodAll_cons r0
  obtain ⟨v2, vs2, d2, ds2, p2, q2, rfl, rfl, rfl, h2, r2⟩ := trodAll_cons r1
  obtain ⟨v3, vs3, d3, ds3, p3, q3, rfl, rfl, rfl, h3, r3⟩ := trodAll_cons r2
  obtain ⟨rfl, rfl, rfl⟩ := trodAll_nil r3
  obtain rfl : args = #[v0, v1, v2, v3] := by cases args; simp_all
  obtain ⟨rfl, rfl⟩ := trodVars_none hV
  have lt0 : ∀ x ∈ p0, x.block < W.heap.size := by obtain ⟨m, hm⟩ := h0; exact DataW.trod_lt m _ _ _ hm
  have lt1 : ∀ x ∈ p1, x.block < W.heap.size := by obtain ⟨m, hm⟩ := h1; exact DataW.trod_lt m _ _ _ hm
  have lt2 : ∀ x ∈ p2, x.block < W.heap.size := by obtain ⟨m, hm⟩ := h2; exact DataW.trod_lt m _ _ _ hm
  have lt3 : ∀ x ∈ p3, x.block < W.heap.size := by obtain ⟨m, hm⟩ := h3; exact DataW.trod_lt m _ _ _ hm
  obtain ⟨c0, rfl, w0⟩ := open_row (hval 0 42 v0 rfl rfl) h0
  obtain ⟨c1, rfl, w1⟩ := open_row (hval 1 42 v1 rfl rfl) h1
  obtain ⟨c2, rfl, w2⟩ := open_row (hval 2 42 v2 rfl rfl) h2
  obtain ⟨c3, rfl, w3⟩ := open_row (hval 3 42 v3 rfl rfl) h3
  clear hA0 hval0
  refine (law_walk c0 c1 c2 c3 _ _ _ _ w0 w1 w2 w3 W).mono fun e W' ⟨he, bel⟩ => ?_
  subst he
  exact ⟨_, rfl, _, _, _, [], _, [], hW', trodAll_mk1 (shut_bool Try.underlying4 _), (trodAll_cons_mk (Below.trod laidOut (by kernel_rfl) (of_decide_eq_true (by kernel_rfl)) h0 bel lt0) (trodAll_cons_mk (Below.trod laidOut (by kernel_rfl) (of_decide_eq_true (by kernel_rfl)) h1 bel lt1) (trodAll_cons_mk (Below.trod laidOut (by kernel_rfl) (of_decide_eq_true (by kernel_rfl)) h2 bel lt2) (trodAll_cons_mk (Below.trod laidOut (by kernel_rfl) (of_decide_eq_true (by kernel_rfl)) h3 bel lt3) trodAll_mk0)))), rfl, bel.frame _, fun h => by cases h⟩

theorem over : Rows.fnApartKeepsWithMoreLastsOrFewerFirstsRow.holds Try.pinned (OpenSpec.ofChange Rows.fnApartKeepsWithMoreLastsOrFewerFirstsSpec) :=
  OpenClaim.holds_of_wide 8 Try.f8 rfl rfl rfl rfl rfl rfl rfl ⟨rfl, rfl, rfl, rfl, rfl⟩ rfl rfl rfl rfl rfl (by kernel_rfl) Try.func8 (by kernel_rfl)
    (of_decide_eq_true (by kernel_rfl)) (by unfold Func.isWrapper; first | (rw [if_pos (by decide +kernel)]; kernel_rfl) | (rw [if_neg (by decide +kernel)]; exact ⟨rfl, rfl⟩))
    (fun os started H enc _ => lifted os started H enc)

/-- THE STATEMENT -/
theorem proved : Rows.FnApartKeepsWithMoreLastsOrFewerFirstsSaid :=
  over
end Go.Proofs.Qxb6600446a.fnApartKeepsWithMoreLastsOrFewerFirsts
