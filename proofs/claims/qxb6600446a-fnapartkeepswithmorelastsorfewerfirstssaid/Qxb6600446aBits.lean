/-
  WHAT ONE ROUND OF apart's INNER LOOP DOES, in the walk's own words on uint64, told by the plain law's.
-/
import Derived.Test.Qxb6600446aPlain
import Derived.Laws.BitsAllLaws
import Derived.Laws.Bits64
namespace Go.Proofs.Qxb6600446a
open Plain

theorem and_lt_of (a b : Nat) (h : a < 2 ^ 64) : a &&& b < 2 ^ 64 := Nat.lt_of_le_of_lt Nat.and_le_left h

theorem testBit_ne (a b i : Nat) (h : a.testBit i ≠ b.testBit i) : a ≠ b := by
  intro e
  rw [e] at h
  exact h rfl

theorem word_zero (o : Bool) : word 0 0 o = some o := go_zero _ _ 64 0 o (fun j _ _ => by rw [Nat.zero_testBit]; exact ⟨rfl, rfl⟩)

theorem or_zero (f l : Nat) (h : f ||| l = 0) : f = 0 ∧ l = 0 := by
  constructor
  · apply Nat.eq_of_testBit_eq
    intro j
    have := congrArg (fun x => x.testBit j) h
    simp only [Nat.testBit_or, Nat.zero_testBit, Bool.or_eq_false_iff] at this
    rw [this.1, Nat.zero_testBit]
  · apply Nat.eq_of_testBit_eq
    intro j
    have := congrArg (fun x => x.testBit j) h
    simp only [Nat.testBit_or, Nat.zero_testBit, Bool.or_eq_false_iff] at this
    rw [this.2, Nat.zero_testBit]

/-- The lowest marked bit: f, l without it, and what the scan of the word comes to. -/
theorem take_low (f l : Nat) (hf : f < 2 ^ 64) (hl : l < 2 ^ 64) (h0 : f ||| l ≠ 0) : ∃ i, i < 64 ∧ (f ||| l) &&& (2 ^ 64 - (f ||| l)) = 2 ^ i ∧ (f.testBit i = true ∨ l.testBit i = true) ∧
    ∀ o, word f l o = if (f.testBit i && o) = true then none else word (f &&& (2 ^ 64 - 1 - 2 ^ i)) (l &&& (2 ^ 64 - 1 - 2 ^ i)) ((f.testBit i || o) && !l.testBit i) := by
  obtain ⟨i, m, hm⟩ := lowest (f ||| l) (f ||| l) (Nat.le_refl _) h0
  obtain ⟨hi, hb, hlo, hand⟩ := low_bit (f ||| l) i m hm (Nat.or_lt_two_pow hf hl)
  refine ⟨i, hi, hand, ?_, fun o => ?_⟩
  · rw [Nat.testBit_or, Bool.or_eq_true] at hb
    exact hb
  · refine go_take f.testBit l.testBit _ _ 64 i hi o (fun j hj => ?_) (fun j => clear_bit f i j hi hf) (fun j => clear_bit l i j hi hl)
    have := hlo j hj
    rw [Nat.testBit_or, Bool.or_eq_false_iff] at this
    exact this

theorem clear_lt (f i : Nat) (hi : i < 64) (hf : f < 2 ^ 64) (hb : f.testBit i = true) : f &&& (2 ^ 64 - 1 - 2 ^ i) < f := by
  have hle : f &&& (2 ^ 64 - 1 - 2 ^ i) ≤ f := Nat.and_le_left
  have hne : f &&& (2 ^ 64 - 1 - 2 ^ i) ≠ f := by
    apply testBit_ne _ _ i
    rw [clear_bit f i i hi hf, hb]
    simp
  omega

theorem clear_same (f i : Nat) (hi : i < 64) (hf : f < 2 ^ 64) (hb : f.testBit i = false) : f &&& (2 ^ 64 - 1 - 2 ^ i) = f := by
  apply Nat.eq_of_testBit_eq
  intro j
  rw [clear_bit f i j hi hf]
  by_cases hj : j = i
  · subst hj
    rw [hb]
    rfl
  · simp [hj]

/-- ONE ROUND, in the walk's words. -/
theorem round_facts (f l : Nat) (hf : f < 2 ^ 64) (hl : l < 2 ^ 64) (x nx lo fl ll f' l' : Int)
    (hx : bits .or .u64 (f : Int) (l : Int) = x) (hnx : IntKind.u64.wrap (-x) = nx) (hlo : bits .and .u64 x nx = lo)
    (hfl : bits .and .u64 (f : Int) lo = fl) (hll : bits .and .u64 (l : Int) lo = ll) (hf' : bits .andNot .u64 (f : Int) lo = f') (hl' : bits .andNot .u64 (l : Int) lo = l') :
    ((x != 0) = false → ∀ o, word f l o = some o) ∧
    ((x != 0) = true → ∃ i, i < 64 ∧ (fl != 0) = f.testBit i ∧ (ll != 0) = l.testBit i ∧ (f.testBit i = true ∨ l.testBit i = true) ∧
      f' = ((f &&& (2 ^ 64 - 1 - 2 ^ i) : Nat) : Int) ∧ l' = ((l &&& (2 ^ 64 - 1 - 2 ^ i) : Nat) : Int) ∧
      ∀ o, word f l o = if (f.testBit i && o) = true then none else word (f &&& (2 ^ 64 - 1 - 2 ^ i)) (l &&& (2 ^ 64 - 1 - 2 ^ i)) ((f.testBit i || o) && !l.testBit i)) := by
  have e64 : (2 : Nat) ^ 64 = 18446744073709551616 := by decide
  have hor := Nat.or_lt_two_pow hf hl
  rw [u64_or_nat f l (by omega) (by omega)] at hx
  obtain ⟨y, hy⟩ : ∃ y, y = f ||| l := ⟨_, rfl⟩
  rw [← hy] at hx hor
  constructor
  · intro h o
    have hx0 : x = 0 := by simpa using h
    have hy0 : y = 0 := by omega
    rw [hy0] at hy
    obtain ⟨rfl, rfl⟩ := or_zero f l hy.symm
    exact word_zero o
  · intro h
    have hx0 : x ≠ 0 := by simpa using h
    have hy0 : y ≠ 0 := by omega
    obtain ⟨i, hi, hand, hor', hw⟩ := take_low f l hf hl (by rw [← hy]; exact hy0)
    have hnx' : nx = ((2 ^ 64 - y : Nat) : Int) := by
      rw [← hnx, IntKind.wrap_u64, ← hx, e64]
      omega
    have hlt : 2 ^ i < 2 ^ 64 := Nat.pow_lt_pow_right (by decide) hi
    have hlo' : lo = ((2 ^ i : Nat) : Int) := by
      rw [← hlo, ← hx, hnx', u64_and_nat y (2 ^ 64 - y) (by omega) (by omega), hy, hand]
    refine ⟨i, hi, ?_, ?_, hor', ?_, ?_, hw⟩
    · rw [← hfl, hlo', u64_and_nat f (2 ^ i) (by omega) (by omega)]
      cases hb : f.testBit i with
      | true =>
        have := (and_pow_ne f i).2 hb
        have : ((f &&& 2 ^ i : Nat) : Int) ≠ 0 := by omega
        simpa using this
      | false =>
        have : ¬ (f &&& 2 ^ i ≠ 0) := fun h => by rw [(and_pow_ne f i).1 h] at hb; cases hb
        have : ((f &&& 2 ^ i : Nat) : Int) = 0 := by omega
        rw [this]
        rfl
    · rw [← hll, hlo', u64_and_nat l (2 ^ i) (by omega) (by omega)]
      cases hb : l.testBit i with
      | true =>
        have := (and_pow_ne l i).2 hb
        have : ((l &&& 2 ^ i : Nat) : Int) ≠ 0 := by omega
        simpa using this
      | false =>
        have : ¬ (l &&& 2 ^ i ≠ 0) := fun h => by rw [(and_pow_ne l i).1 h] at hb; cases hb
        have : ((l &&& 2 ^ i : Nat) : Int) = 0 := by omega
        rw [this]
        rfl
    · rw [← hf', hlo', u64_andNot_nat f (2 ^ i) (by omega) (by omega)]
    · rw [← hl', hlo', u64_andNot_nat l (2 ^ i) (by omega) (by omega)]

end Go.Proofs.Qxb6600446a
