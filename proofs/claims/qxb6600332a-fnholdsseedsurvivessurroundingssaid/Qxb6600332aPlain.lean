/-
  THE PLAIN LAW of HoldsSeedSurvivesSurroundings: no Go in sight. 'scan': what the loop of holdsSeed knows behind the bytes of a text read from its end.
-/
namespace Go.Proofs.Qxb6600332a.Plain

/-- 'c -= 32' where c is a small letter. -/
def up (c : Nat) : Nat := if 97 ≤ c ∧ c ≤ 122 then c - 32 else c
/-- isBase32. -/
def b32 (c : Nat) : Bool := decide ((65 ≤ c ∧ c ≤ 90) ∨ (50 ≤ c ∧ c ≤ 55))
/-- The run of base32 characters at the list's head, and whether a seed has been seen. -/
def scan : List UInt8 → Nat × Bool
  | [] => (0, false)
  | c :: r => if (scan r).2 = true then ((scan r).1, true) else if b32 (up c.toNat) = true then ((scan r).1 + 1, decide (up c.toNat = 83 ∧ 58 ≤ (scan r).1 + 1)) else (0, false)

theorem scan_le : ∀ l : List UInt8, (scan l).1 ≤ l.length
  | [] => Nat.le_refl _
  | c :: r => by
    have h := scan_le r
    unfold scan
    simp only [List.length_cons]
    split
    · simp only; omega
    · split
      · simp only; omega
      · simp only; omega

theorem scan_seen (c : UInt8) (r : List UInt8) (h : (scan r).2 = true) : (scan (c :: r)).2 = true := by
  unfold scan
  rw [if_pos h]

theorem scan_no (c : UInt8) (r : List UInt8) (h : (scan r).2 = false) (hb : b32 (up c.toNat) = false) : scan (c :: r) = (0, false) := by
  rw [scan, if_neg (by simp [h]), if_neg (by simp [hb])]

theorem scan_yes (c : UInt8) (r : List UInt8) (h : (scan r).2 = false) (hb : b32 (up c.toNat) = true) : scan (c :: r) = ((scan r).1 + 1, decide (up c.toNat = 83 ∧ 58 ≤ (scan r).1 + 1)) := by
  rw [scan, if_neg (by simp [h]), if_pos hb]

/-- Bytes ahead of a seed take nothing away. -/
theorem scan_pre (l : List UInt8) (h : (scan l).2 = true) : ∀ p : List UInt8, (scan (p ++ l)).2 = true
  | [] => h
  | c :: p => scan_seen c (p ++ l) (scan_pre l h p)

/-- Bytes behind: where the longer text shows no seed, the shorter shows none, and its run is no longer. -/
theorem scan_post (q : List UInt8) : ∀ l : List UInt8, (scan (l ++ q)).2 = false → (scan l).2 = false ∧ (scan l).1 ≤ (scan (l ++ q)).1
  | [], _ => ⟨rfl, Nat.zero_le _⟩
  | c :: r, h => by
    have h0 : (scan (r ++ q)).2 = false := by
      cases e : (scan (r ++ q)).2 with
      | false => rfl
      | true => exact absurd (scan_seen c (r ++ q) e) (by rw [← List.cons_append, h]; decide)
    have ih := scan_post q r h0
    rw [List.cons_append] at h ⊢
    cases hb : b32 (up c.toNat) with
    | false =>
      rw [scan_no c r ih.1 hb, scan_no c (r ++ q) h0 hb]
      exact ⟨rfl, Nat.le_refl _⟩
    | true =>
      rw [scan_yes c (r ++ q) h0 hb] at h ⊢
      rw [scan_yes c r ih.1 hb]
      refine ⟨?_, Nat.succ_le_succ ih.2⟩
      simp only [decide_eq_false_iff_not, not_and, Nat.not_le] at h ⊢
      intro hs
      have := h hs
      have := ih.2
      omega

/-- THE LAW: a text that holds a seed holds it whatever stands around it. -/
theorem survives (p l q : List UInt8) (h : (scan l).2 = true) : (scan (p ++ l ++ q)).2 = true := by
  cases e : (scan (p ++ l ++ q)).2 with
  | true => rfl
  | false =>
    have := (scan_post q (p ++ l) e).1
    rw [scan_pre l h p] at this
    cases this

/-- The run at place k of a text. -/
def runAt (s : ByteArray) (k : Nat) : Int := ((scan (s.data.toList.drop k)).1 : Nat)
def seenAt (s : ByteArray) (k : Nat) : Bool := (scan (s.data.toList.drop k)).2

theorem drop_at (s : ByteArray) (k : Nat) (h : k < s.size) : s.data.toList.drop k = s[k] :: s.data.toList.drop (k + 1) := by
  rw [List.drop_eq_getElem_cons (by simpa using h)]
  rfl

theorem runAt_bd (s : ByteArray) (k : Nat) : 0 ≤ runAt s k ∧ runAt s k ≤ s.size := by
  unfold runAt
  have h := scan_le (s.data.toList.drop k)
  have h2 : (s.data.toList.drop k).length ≤ s.size := by
    rw [List.length_drop]
    have : s.data.toList.length = s.size := rfl
    omega
  omega

theorem runAt_lt (s : ByteArray) (k : Nat) (h : k ≤ s.size) : runAt s k + k ≤ s.size := by
  unfold runAt
  have h1 := scan_le (s.data.toList.drop k)
  have h2 : (s.data.toList.drop k).length = s.size - k := by
    rw [List.length_drop]
    rfl
  omega

theorem at_end (s : ByteArray) : runAt s s.size = 0 ∧ seenAt s s.size = false := by
  unfold runAt seenAt
  have : s.data.toList.drop s.size = [] := List.drop_eq_nil_of_le (Nat.le_refl _)
  rw [this]
  exact ⟨rfl, rfl⟩

theorem seen_all (s : ByteArray) (k : Nat) (h : seenAt s k = true) : (scan s.data.toList).2 = true := by
  have := scan_pre _ h (s.data.toList.take k)
  rwa [List.take_append_drop] at this

theorem at_no (s : ByteArray) (k : Nat) (h : k < s.size) (hs : seenAt s (k + 1) = false) (hb : b32 (up s[k].toNat) = false) : runAt s k = 0 ∧ seenAt s k = false := by
  unfold runAt seenAt at *
  rw [drop_at s k h, scan_no _ _ hs hb]
  exact ⟨rfl, rfl⟩

theorem at_yes (s : ByteArray) (k : Nat) (h : k < s.size) (hs : seenAt s (k + 1) = false) (hb : b32 (up s[k].toNat) = true) : runAt s k = runAt s (k + 1) + 1 ∧ (seenAt s k = decide (up s[k].toNat = 83 ∧ 58 ≤ runAt s (k + 1) + 1)) := by
  unfold runAt seenAt at *
  rw [drop_at s k h, scan_yes _ _ hs hb]
  refine ⟨by simp, ?_⟩
  simp only [decide_eq_decide]
  constructor
  · rintro ⟨a, b⟩; exact ⟨a, by omega⟩
  · rintro ⟨a, b⟩; exact ⟨a, by omega⟩

end Go.Proofs.Qxb6600332a.Plain
