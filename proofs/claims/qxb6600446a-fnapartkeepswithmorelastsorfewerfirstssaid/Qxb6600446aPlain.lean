/-
  THE PLAIN LAW of ApartKeepsWithMoreLastsOrFewerFirsts: no Go in sight. Bits are read in rising order; a first byte behind another one with no last byte between them is refused.
-/
namespace Go.Proofs.Qxb6600446a.Plain

/-- n places from k on; o: a first byte is open; none: refused. -/
def go (fb lb : Nat → Bool) : Nat → Nat → Bool → Option Bool
  | 0, _, o => some o
  | n + 1, k, o => if (fb k && o) = true then none else go fb lb n (k + 1) ((fb k || o) && !lb k)

theorem go_succ (fb lb : Nat → Bool) (n k : Nat) (o : Bool) : go fb lb (n + 1) k o = if (fb k && o) = true then none else go fb lb n (k + 1) ((fb k || o) && !lb k) := rfl

theorem go_split (fb lb : Nat → Bool) (n : Nat) : ∀ (m k : Nat) (o : Bool), go fb lb (m + n) k o = (go fb lb m k o).bind (fun o' => go fb lb n (k + m) o')
  | 0, k, o => by rw [Nat.zero_add]; rfl
  | m + 1, k, o => by
    rw [show m + 1 + n = m + n + 1 by omega, go_succ, go_succ]
    by_cases h : (fb k && o) = true
    · rw [if_pos h, if_pos h]
      rfl
    · rw [if_neg h, if_neg h, go_split fb lb n m (k + 1), show k + 1 + m = k + (m + 1) by omega]

theorem go_congr (fb lb fb' lb' : Nat → Bool) : ∀ (n k : Nat) (o : Bool), (∀ j, k ≤ j → j < k + n → fb j = fb' j ∧ lb j = lb' j) → go fb lb n k o = go fb' lb' n k o
  | 0, _, _, _ => rfl
  | n + 1, k, o, h => by
    obtain ⟨h1, h2⟩ := h k (Nat.le_refl _) (by omega)
    unfold go
    rw [h1, h2, go_congr fb lb fb' lb' n (k + 1) _ (fun j a b => h j (by omega) (by omega))]

theorem go_zero (fb lb : Nat → Bool) : ∀ (n k : Nat) (o : Bool), (∀ j, k ≤ j → j < k + n → fb j = false ∧ lb j = false) → go fb lb n k o = some o
  | 0, _, _, _ => rfl
  | n + 1, k, o, h => by
    obtain ⟨h1, h2⟩ := h k (Nat.le_refl _) (by omega)
    unfold go
    rw [h1, h2, go_zero fb lb n (k + 1) _ (fun j a b => h j (by omega) (by omega))]
    cases o <;> rfl

/-- THE LOWEST MARKED PLACE i TAKEN OUT. -/
theorem go_take (fb lb fb' lb' : Nat → Bool) (N i : Nat) (hi : i < N) (o : Bool) (h0 : ∀ j, j < i → fb j = false ∧ lb j = false)
    (hf : ∀ j, fb' j = (fb j && decide (j ≠ i))) (hl : ∀ j, lb' j = (lb j && decide (j ≠ i))) :
    go fb lb N 0 o = if (fb i && o) = true then none else go fb' lb' N 0 ((fb i || o) && !lb i) := by
  obtain ⟨r, rfl⟩ : ∃ r, N = i + (1 + r) := ⟨N - i - 1, by omega⟩
  rw [go_split, go_zero fb lb i 0 o (fun j _ b => h0 j (by omega)), Option.bind_some, go_split, Nat.zero_add]
  by_cases hfo : (fb i && o) = true
  · rw [if_pos hfo]
    have e : go fb lb 1 i o = none := by
      unfold go
      rw [if_pos hfo]
    rw [e]
    rfl
  · rw [if_neg hfo]
    have e : go fb lb 1 i o = some ((fb i || o) && !lb i) := by
      unfold go
      rw [if_neg hfo]
      rfl
    rw [e, Option.bind_some, go_split, go_zero fb' lb' i 0 _ (fun j _ b => by rw [hf, hl, (h0 j (by omega)).1, (h0 j (by omega)).2]; exact ⟨rfl, rfl⟩), Option.bind_some, go_split, Nat.zero_add,
      go_zero fb' lb' 1 i _ (fun j a b => by rw [hf, hl, show j = i by omega]; simp), Option.bind_some]
    exact go_congr fb lb fb' lb' r (i + 1) _ (fun j a b => by rw [hf, hl, decide_eq_true (show j ≠ i by omega), Bool.and_true, Bool.and_true]; exact ⟨rfl, rfl⟩)

/-- Fewer firsts, more lasts, less open: still accepted, and less is open. -/
theorem go_mono (fb lb fb' lb' : Nat → Bool) (hf : ∀ j, fb' j = true → fb j = true) (hl : ∀ j, lb j = true → lb' j = true) :
    ∀ (n k : Nat) (o o' r : Bool), (o' = true → o = true) → go fb lb n k o = some r → ∃ r', go fb' lb' n k o' = some r' ∧ (r' = true → r = true)
  | 0, _, o, o', r, ho, h => by
    have : o = r := Option.some.inj h
    exact ⟨o', rfl, fun h' => this ▸ ho h'⟩
  | n + 1, k, o, o', r, ho, h => by
    unfold go at h
    by_cases hfo : (fb k && o) = true
    · rw [if_pos hfo] at h
      cases h
    · rw [if_neg hfo] at h
      have hfo' : ¬ (fb' k && o') = true := by
        intro hh
        simp only [Bool.and_eq_true] at hh hfo
        exact hfo ⟨hf k hh.1, ho hh.2⟩
      unfold go
      rw [if_neg hfo']
      refine go_mono fb lb fb' lb' hf hl n (k + 1) _ _ r ?_ h
      intro hh
      simp only [Bool.and_eq_true, Bool.or_eq_true, Bool.not_eq_true'] at hh ⊢
      refine ⟨hh.1.elim (fun a => Or.inl (hf k a)) (fun a => Or.inr (ho a)), ?_⟩
      cases hlk : lb k with
      | false => rfl
      | true => exact absurd (hl k hlk) (by rw [hh.2]; decide)

/-- One word of 64 bits. -/
def word (f l : Nat) (o : Bool) : Option Bool := go f.testBit l.testBit 64 0 o

/-- The first k words of a page. -/
def pages (F L : Nat → Nat) : Nat → Option Bool
  | 0 => some false
  | k + 1 => (pages F L k).bind (fun o => word (F k) (L k) o)

def apartB (F L : Nat → Nat) : Bool := (pages F L 256).isSome

theorem pages_none (F L : Nat → Nat) (k : Nat) (h : pages F L k = none) : ∀ n, pages F L (k + n) = none
  | 0 => h
  | n + 1 => by
    show (pages F L (k + n)).bind _ = none
    rw [pages_none F L k h n]
    rfl

theorem apart_none (F L : Nat → Nat) (k : Nat) (hk : k ≤ 256) (h : pages F L k = none) : apartB F L = false := by
  have := pages_none F L k h (256 - k)
  rw [show k + (256 - k) = 256 by omega] at this
  unfold apartB
  rw [this]
  rfl

theorem pages_mono (F L F' L' : Nat → Nat) (hf : ∀ k j, (F' k).testBit j = true → (F k).testBit j = true) (hl : ∀ k j, (L k).testBit j = true → (L' k).testBit j = true) :
    ∀ (k : Nat) (r : Bool), pages F L k = some r → ∃ r', pages F' L' k = some r' ∧ (r' = true → r = true)
  | 0, r, h => ⟨false, rfl, fun h' => by cases h'⟩
  | k + 1, r, h => by
    have h : (pages F L k).bind (fun o => word (F k) (L k) o) = some r := h
    cases hp : pages F L k with
    | none => rw [hp] at h; cases h
    | some o =>
      rw [hp, Option.bind_some] at h
      obtain ⟨o', h1, h2⟩ := pages_mono F L F' L' hf hl k o hp
      obtain ⟨r', h3, h4⟩ := go_mono _ _ (F' k).testBit (L' k).testBit (hf k) (hl k) 64 0 o o' r h2 h
      refine ⟨r', ?_, h4⟩
      show (pages F' L' k).bind (fun o => word (F' k) (L' k) o) = some r'
      rw [h1]
      exact h3

/-- THE LAW. -/
theorem apart_keeps (F L F' L' : Nat → Nat) (hf : ∀ k j, (F' k).testBit j = true → (F k).testBit j = true) (hl : ∀ k j, (L k).testBit j = true → (L' k).testBit j = true) (h : apartB F L = true) : apartB F' L' = true := by
  unfold apartB at h ⊢
  obtain ⟨r, hr⟩ := Option.isSome_iff_exists.1 h
  obtain ⟨r', h1, _⟩ := pages_mono F L F' L' hf hl 256 r hr
  rw [h1]
  rfl

/-! ### Bits -/

theorem lowest : ∀ (n x : Nat), x ≤ n → x ≠ 0 → ∃ i m, x = 2 ^ (i + 1) * m + 2 ^ i
  | 0, x, h, h0 => absurd (Nat.le_zero.1 h) h0
  | n + 1, x, h, h0 => by
    by_cases ho : x % 2 = 1
    · exact ⟨0, x / 2, by omega⟩
    · obtain ⟨i, m, hm⟩ := lowest n (x / 2) (by omega) (by omega)
      refine ⟨i + 1, m, ?_⟩
      have e1 : 2 ^ (i + 1 + 1) * m = 2 * (2 ^ (i + 1) * m) := by rw [Nat.pow_succ 2 (i + 1), Nat.mul_comm _ 2, Nat.mul_assoc]
      have e2 : 2 ^ (i + 1) = 2 * 2 ^ i := by rw [Nat.pow_succ, Nat.mul_comm]
      omega

theorem low_bit (x i m : Nat) (hx : x = 2 ^ (i + 1) * m + 2 ^ i) (h64 : x < 2 ^ 64) :
    i < 64 ∧ x.testBit i = true ∧ (∀ j, j < i → x.testBit j = false) ∧ x &&& (2 ^ 64 - x) = 2 ^ i := by
  have hlt : 2 ^ i < 2 ^ (i + 1) := Nat.pow_lt_pow_succ (by decide)
  have hpos : 0 < 2 ^ i := Nat.pow_pos (by decide)
  have hi : i < 64 := by
    apply Nat.lt_of_not_le
    intro hle
    have := Nat.pow_le_pow_right (show 0 < 2 by decide) hle
    omega
  have bx : ∀ j, x.testBit j = if j < i + 1 then (2 ^ i).testBit j else m.testBit (j - (i + 1)) := by
    intro j
    rw [hx]
    exact Nat.testBit_two_pow_mul_add m hlt j
  have by1 : ∀ j, (x - 1).testBit j = if j < i + 1 then (2 ^ i - 1).testBit j else m.testBit (j - (i + 1)) := by
    intro j
    have e : x - 1 = 2 ^ (i + 1) * m + (2 ^ i - 1) := by omega
    rw [e]
    exact Nat.testBit_two_pow_mul_add m (by omega) j
  refine ⟨hi, ?_, ?_, ?_⟩
  · rw [bx, if_pos (by omega), Nat.testBit_two_pow_self]
  · intro j hj
    rw [bx, if_pos (by omega), Nat.testBit_two_pow]
    exact decide_eq_false (by omega)
  · apply Nat.eq_of_testBit_eq
    intro j
    have e : 2 ^ 64 - x = 2 ^ 64 - (x - 1 + 1) := by omega
    rw [Nat.testBit_and, e, Nat.testBit_two_pow_sub_succ (by omega), bx, by1, Nat.testBit_two_pow]
    by_cases hj : j < i + 1
    · rw [if_pos hj, if_pos hj, Nat.testBit_two_pow_sub_one]
      by_cases hji : i = j
      · subst hji
        simp [hi]
      · simp [hji]
    · rw [if_neg hj, if_neg hj]
      have : ¬ i = j := by omega
      cases m.testBit (j - (i + 1)) <;> simp [this]

theorem and_pow_ne (f i : Nat) : (f &&& 2 ^ i ≠ 0) ↔ f.testBit i = true := by
  constructor
  · intro h
    cases hb : f.testBit i with
    | true => rfl
    | false =>
      exfalso
      apply h
      apply Nat.eq_of_testBit_eq
      intro j
      rw [Nat.testBit_and, Nat.testBit_two_pow, Nat.zero_testBit]
      by_cases hj : i = j
      · subst hj
        rw [hb]
        rfl
      · simp [hj]
  · intro h e
    have := congrArg (fun x => x.testBit i) e
    simp only [Nat.testBit_and, Nat.testBit_two_pow_self, Nat.zero_testBit, h] at this
    cases this

theorem clear_bit (f i j : Nat) (hi : i < 64) (hf : f < 2 ^ 64) : (f &&& (2 ^ 64 - 1 - 2 ^ i)).testBit j = (f.testBit j && decide (j ≠ i)) := by
  have hlt : 2 ^ i < 2 ^ 64 := Nat.pow_lt_pow_right (by decide) hi
  have e : 2 ^ 64 - 1 - 2 ^ i = 2 ^ 64 - (2 ^ i + 1) := by omega
  rw [Nat.testBit_and, e, Nat.testBit_two_pow_sub_succ hlt, Nat.testBit_two_pow]
  by_cases hj : j < 64
  · rw [decide_eq_true hj, Bool.true_and]
    by_cases hji : i = j
    · subst hji
      simp
    · have : j ≠ i := fun h => hji h.symm
      simp [hji, this]
  · have : f.testBit j = false := Nat.testBit_lt_two_pow (Nat.lt_of_lt_of_le hf (Nat.pow_le_pow_right (by decide) (by omega)))
    rw [this]
    rfl

end Go.Proofs.Qxb6600446a.Plain
