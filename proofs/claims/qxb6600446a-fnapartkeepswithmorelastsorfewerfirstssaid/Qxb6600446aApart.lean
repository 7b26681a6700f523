/-
  THE WALK of apart: over two arrays of 256 words that lie in two blocks.
-/
import Derived.Test.Qxb6600446aProg
import Derived.Test.Qxb6600446aBits
import Derived.WalkKit
import Derived.BigQuiet
import Derived.Deep.QuietTactic
namespace Go.Proofs.Qxb6600446a
open Go.RowKit
open Plain
set_option linter.unusedVariables false

theorem ret_bool {a b : Bool} (h : a = b) : Ending.returned (.bool a) = .returned (.bool b) := by rw [h]

/-- What the inner loop keeps. -/
def Inner (F L : Nat → Nat) (k : Nat) (o o1 : Bool) (f l : Int) (fn ln : Nat) : Prop :=
  f = (fn : Int) ∧ l = (ln : Int) ∧ fn < 2 ^ 64 ∧ ln < 2 ^ 64 ∧ word fn ln o1 = word (F k) (L k) o

/-- The inner loop's relation, the outer's. -/
def InRel (F L : Nat → Nat) (k : Nat) (o : Bool) (op fv lv : Value) : Prop :=
  ∃ (o1 : Bool) (f l : Int) (fn ln : Nat), op = .bool o1 ∧ fv = .int .u64 f ∧ lv = .int .u64 l ∧ Hid (Inner F L k o o1 f l fn ln)
def OutRel (F L : Nat → Nat) (w : World) (op iv : Value) (wr : World) : Prop :=
  ∃ (k : Nat) (o : Bool) (n : Nat), k ≤ 256 ∧ iv = .int .i64 k ∧ op = .bool o ∧ wr = w.drewN n ∧ Hid (pages F L k = some o)

theorem pages_step {F L : Nat → Nat} {k : Nat} {o : Bool} (h : pages F L k = some o) : pages F L (k + 1) = word (F k) (L k) o := by
  show (pages F L k).bind _ = _
  rw [h]
  rfl

theorem apart_some {F L : Nat → Nat} {o : Bool} (h : pages F L 256 = some o) : apartB F L = true := by
  unfold apartB
  rw [h]
  rfl

/-- One round of the inner loop, each way. -/
theorem inner_step {F L : Nat → Nat} {k : Nat} {o o1 : Bool} {f l : Int} {fn ln : Nat} (h : Inner F L k o o1 f l fn ln) (x nx lo fl ll f' l' : Int)
    (hx : bits .or .u64 f l = x) (hnx : IntKind.u64.wrap (-x) = nx) (hlo : bits .and .u64 x nx = lo)
    (hfl : bits .and .u64 f lo = fl) (hll : bits .and .u64 l lo = ll) (hf' : bits .andNot .u64 f lo = f') (hl' : bits .andNot .u64 l lo = l') :
    ((x != 0) = false → word (F k) (L k) o = some o1) ∧
    ((x != 0) = true →
      ((fl != 0) = true → o1 = true → word (F k) (L k) o = none) ∧
      ((fl != 0) = true → o1 = false → (ll != 0) = true → f' + l' < f + l ∧ 0 ≤ f' + l' ∧ ∃ fn' ln', Inner F L k o false f' l' fn' ln') ∧
      ((fl != 0) = true → o1 = false → (ll != 0) = false → f' + l < f + l ∧ 0 ≤ f' + l ∧ ∃ fn' ln', Inner F L k o true f' l fn' ln') ∧
      ((fl != 0) = false → (ll != 0) = true → f + l' < f + l ∧ 0 ≤ f + l' ∧ ∃ fn' ln', Inner F L k o false f l' fn' ln') ∧
      ((fl != 0) = false → (ll != 0) = false → False)) := by
  obtain ⟨rfl, rfl, hf, hl, hw⟩ := h
  obtain ⟨r0, r1⟩ := round_facts fn ln hf hl x nx lo fl ll f' l' hx hnx hlo hfl hll hf' hl'
  refine ⟨fun h => by rw [← hw]; exact r0 h o1, fun h => ?_⟩
  obtain ⟨i, hi, b1, b2, hor, rfl, rfl, hwd⟩ := r1 h
  have cf := and_lt_of fn (2 ^ 64 - 1 - 2 ^ i) hf
  have cl := and_lt_of ln (2 ^ 64 - 1 - 2 ^ i) hl
  refine ⟨fun h1 h2 => ?_, fun h1 h2 h3 => ?_, fun h1 h2 h3 => ?_, fun h1 h3 => ?_, fun h1 h3 => ?_⟩
  · subst h2
    rw [← hw, hwd true, ← b1, h1]
    rfl
  · subst h2
    have t1 := clear_lt fn i hi hf (by rw [← b1]; exact h1)
    have t2 := clear_lt ln i hi hl (by rw [← b2]; exact h3)
    refine ⟨by omega, by omega, _, _, rfl, rfl, cf, cl, ?_⟩
    rw [← hw, hwd false, ← b1, ← b2, h1, h3]
    rfl
  · subst h2
    have t1 := clear_lt fn i hi hf (by rw [← b1]; exact h1)
    have t2 := clear_same ln i hi hl (by rw [← b2]; exact h3)
    refine ⟨by omega, by omega, _, ln, rfl, rfl, cf, hl, ?_⟩
    rw [← hw, hwd false, ← b1, ← b2, h1, h3, t2]
    rfl
  · have t1 := clear_same fn i hi hf (by rw [← b1]; exact h1)
    have t2 := clear_lt ln i hi hl (by rw [← b2]; exact h3)
    refine ⟨by omega, by omega, fn, _, rfl, rfl, hf, cl, ?_⟩
    rw [← hw, hwd o1, ← b1, ← b2, h1, h3, t1]
    simp
  · rw [← b1, ← b2, h1, h3] at hor
    rcases hor with h | h <;> cases h

set_option maxHeartbeats 1000000 in
theorem apart_any (bf bl : Nat) (F L : Nat → Nat) (w : World) (bF : ∀ i, F i < 2 ^ 64) (bL : ∀ i, L i < 2 ^ 64)
    (hF : ∀ i, i < 256 → w.cell? ⟨bf, i, none⟩ = some (.int .u64 (F i : Int))) (hL : ∀ i, i < 256 → w.cell? ⟨bl, i, none⟩ = some (.int .u64 (L i : Int))) (r : Bool) (hr : apartB F L = r) :
    Calls Try.prog 33 #[.pointer (some ⟨bf, 0, none⟩), .pointer (some ⟨bl, 0, none⟩)] w fun e w' => e = .returned (.bool r) ∧ ∃ n, w' = w.drewN n := by
  have HR : Hid (apartB F L = r) := hr
  have HF : Hid (∀ i, i < 256 → w.cell? ⟨bf, i, none⟩ = some (.int .u64 (F i : Int))) := hF
  have HL : Hid (∀ i, i < 256 → w.cell? ⟨bl, i, none⟩ = some (.int .u64 (L i : Int))) := hL
  have HbF : Hid (∀ i, F i < 2 ^ 64) := bF
  have HbL : Hid (∀ i, L i < 2 ^ 64) := bL
  clear hF hL bF bL hr
  go_enter Try.func33, Try.ntmps33
  go_wp2
  go_loopw [5, 10] (fun op iv wr => OutRel F L w op iv wr) (fun _ iv _ => 256 - (intOf iv).toNat)
  case atStart => exact ⟨0, false, 0, by omega, rfl, rfl, rfl, rfl⟩
  case round =>
    obtain ⟨k, o, n, hk, rfl, rfl, rfl, HP⟩ := hrel
    by_cases hlt : k < 256
    · obtain ⟨fk, hfk⟩ : ∃ fk : Int, fk = (F k : Int) := ⟨_, rfl⟩
      obtain ⟨lk, hlk⟩ : ∃ lk : Int, lk = (L k : Int) := ⟨_, rfl⟩
      have hFk : w.cell? ⟨bf, k, none⟩ = some (.int .u64 fk) := by rw [hfk]; exact HF.out k hlt
      have hLk : w.cell? ⟨bl, k, none⟩ = some (.int .u64 lk) := by rw [hlk]; exact HL.out k hlt
      have HI0 : Hid (Inner F L k o o fk lk (F k) (L k)) := ⟨hfk, hlk, HbF.out k, HbL.out k, rfl⟩
      clear hfk hlk
      have hkI : (k : Int) < 256 := by omega
      go_wp2
      go_quiet (fail)
      go_wp2
      clear hFk hLk
      go_loop [5, 7, 8] (fun op fv lv => InRel F L k o op fv lv) (fun _ fv lv => (intOf fv + intOf lv).toNat)
      case atStart => exact ⟨o, fk, lk, F k, L k, rfl, rfl, rfl, HI0⟩
      case round =>
        obtain ⟨o1, f, l, fn, ln, rfl, rfl, rfl, HI⟩ := hrel
        obtain ⟨x, hx⟩ : ∃ x, bits .or .u64 f l = x := ⟨_, rfl⟩
        obtain ⟨nx, hnx⟩ : ∃ nx, IntKind.u64.wrap (-x) = nx := ⟨_, rfl⟩
        obtain ⟨lo, hlo⟩ : ∃ lo, bits .and .u64 x nx = lo := ⟨_, rfl⟩
        obtain ⟨fl, hfl⟩ : ∃ fl, bits .and .u64 f lo = fl := ⟨_, rfl⟩
        obtain ⟨ll, hll⟩ : ∃ ll, bits .and .u64 l lo = ll := ⟨_, rfl⟩
        obtain ⟨f', hf'⟩ : ∃ f', bits .andNot .u64 f lo = f' := ⟨_, rfl⟩
        obtain ⟨l', hl'⟩ : ∃ l', bits .andNot .u64 l lo = l' := ⟨_, rfl⟩
        obtain ⟨S0, S1⟩ := inner_step HI.out x nx lo fl ll f' l' hx hnx hlo hfl hll hf' hl'
        cases hb0 : (x != 0) with
        | false =>
          have HW : Hid (pages F L (k + 1) = some o1) := (pages_step HP.out).trans (S0 hb0)
          clear S0 S1 HI HI0
          go_wp2
          go_roundw
          case rel => exact ⟨k + 1, o1, n + nq, by omega, by go_num, rfl, rfl, HW⟩
          case measure => simp [intOf]; omega
        | true =>
          obtain ⟨T1, T2, T3, T4, T5⟩ := S1 hb0
          clear S0 S1
          cases hb1 : (fl != 0) with
          | true =>
            cases o1 with
            | true =>
              have HN : Hid (r = false) := HR.out.symm.trans (apart_none F L (k + 1) (by omega) ((pages_step HP.out).trans (T1 hb1 rfl)))
              clear T1 T2 T3 T4 T5 HI HI0
              go_wp2
              go_ret
              exact ⟨ret_bool HN.out.symm, n + nq, rfl⟩
            | false =>
              cases hb2 : (ll != 0) with
              | true =>
                obtain ⟨m1, m2, fn', ln', hI'⟩ := T2 hb1 rfl hb2
                have HI' : Hid (Inner F L k o false f' l' fn' ln') := hI'
                have HM1 : Hid (f' + l' < f + l) := m1
                have HM2 : Hid (0 ≤ f' + l') := m2
                clear T1 T2 T3 T4 T5 HI HI0 hI' m1 m2
                go_wp2
                go_round
                case rel => exact ⟨_, _, _, _, ⟨false, f', l', fn', ln', rfl, rfl, rfl, HI'⟩, rfl, rfl, rfl, rfl⟩
                case measure => have := HM1.out; have := HM2.out; simp [intOf]; omega
              | false =>
                obtain ⟨m1, m2, fn', ln', hI'⟩ := T3 hb1 rfl hb2
                have HI' : Hid (Inner F L k o true f' l fn' ln') := hI'
                have HM1 : Hid (f' + l < f + l) := m1
                have HM2 : Hid (0 ≤ f' + l) := m2
                clear T1 T2 T3 T4 T5 HI HI0 hI' m1 m2
                go_wp2
                go_round
                case rel => exact ⟨_, _, _, _, ⟨true, f', l, fn', ln', rfl, rfl, rfl, HI'⟩, rfl, rfl, rfl, rfl⟩
                case measure => have := HM1.out; have := HM2.out; simp [intOf]; omega
          | false =>
            cases hb2 : (ll != 0) with
            | true =>
              obtain ⟨m1, m2, fn', ln', hI'⟩ := T4 hb1 hb2
              have HI' : Hid (Inner F L k o false f l' fn' ln') := hI'
              have HM1 : Hid (f + l' < f + l) := m1
              have HM2 : Hid (0 ≤ f + l') := m2
              clear T1 T2 T3 T4 T5 HI HI0 hI' m1 m2
              go_wp2
              go_round
              case rel => exact ⟨_, _, _, _, ⟨false, f, l', fn', ln', rfl, rfl, rfl, HI'⟩, rfl, rfl, rfl, rfl⟩
              case measure => have := HM1.out; have := HM2.out; simp [intOf]; omega
            | false => exact (T5 hb1 hb2).elim
    · have HT : Hid (r = true) := by
        have e : k = 256 := by omega
        have h1 := HP.out
        rw [e] at h1
        exact HR.out.symm.trans (apart_some h1)
      have hkI : decide ((k : Int) < 256) = false := decide_eq_false (by omega)
      clear hlt hk HP
      go_wp2
      go_ret
      exact ⟨ret_bool HT.out.symm, n, rfl⟩

theorem zzApart_any (bf bl : Nat) (F L : Nat → Nat) (w : World) (bF : ∀ i, F i < 2 ^ 64) (bL : ∀ i, L i < 2 ^ 64)
    (hF : ∀ i, i < 256 → w.cell? ⟨bf, i, none⟩ = some (.int .u64 (F i : Int))) (hL : ∀ i, i < 256 → w.cell? ⟨bl, i, none⟩ = some (.int .u64 (L i : Int))) (r : Bool) (hr : apartB F L = r) :
    Calls Try.prog 25 #[.pointer (some ⟨bf, 0, none⟩), .pointer (some ⟨bl, 0, none⟩)] w fun e w' => e = .returned (.bool r) ∧ ∃ n, w' = w.drewN n := by
  have HA : Hid (Calls Try.prog 33 #[.pointer (some ⟨bf, 0, none⟩), .pointer (some ⟨bl, 0, none⟩)] w fun e w' => e = .returned (.bool r) ∧ ∃ n, w' = w.drewN n) := apart_any bf bl F L w bF bL hF hL r hr
  clear hF hL bF bL hr
  go_enter Try.func25, Try.ntmps25
  go_wp2_with (go_at_call 33; refine HA.out.mono ?_; rintro e w1 ⟨rfl, n, rfl⟩)
  go_ret
  exact ⟨rfl, n, rfl⟩
end Go.Proofs.Qxb6600446a
