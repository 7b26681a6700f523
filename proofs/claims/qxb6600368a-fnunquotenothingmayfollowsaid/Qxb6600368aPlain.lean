/-
  THE PLAIN LAW of UnquoteNothingMayFollow: no Go in sight. 'inner': the text between the quotes, read from its head: an escape takes the next byte with it; a bare quote or a lone backslash at the end is refused.
-/
namespace Go.Proofs.Qxb6600368a.Plain

def inner : List UInt8 → Bool
  | [] => true
  | [c] => if c.toNat = 34 then false else if c.toNat = 92 then false else true
  | c :: d :: r => if c.toNat = 34 then false else if c.toNat = 92 then inner r else inner (d :: r)

theorem inner_quote (c : UInt8) (r : List UInt8) (h : c.toNat = 34) : inner (c :: r) = false := by
  cases r with
  | nil => rw [inner, if_pos h]
  | cons d r => rw [inner, if_pos h]

theorem inner_lone (c : UInt8) (h : c.toNat = 92) : inner [c] = false := by
  rw [inner, if_neg (by omega), if_pos h]

theorem inner_pair (c d : UInt8) (r : List UInt8) (h : c.toNat = 92) : inner (c :: d :: r) = inner r := by
  rw [inner, if_neg (by omega), if_pos h]

theorem inner_plain (c : UInt8) (r : List UInt8) (h1 : c.toNat ≠ 34) (h2 : c.toNat ≠ 92) : inner (c :: r) = inner r := by
  cases r with
  | nil => simp only [inner, if_neg h1, if_neg h2]
  | cons d r => rw [inner, if_neg h1, if_neg h2]

/-- Behind an accepted text a quote ends it: with anything more between the quotes it is refused. -/
theorem inner_closed (q : UInt8) (t : List UInt8) (hq : q.toNat = 34) : ∀ (f : Nat) (m : List UInt8), m.length ≤ f → inner m = true → inner (m ++ q :: t) = false
  | _, [], _, _ => inner_quote q t hq
  | 0, c :: m, hf, _ => by simp at hf
  | f + 1, c :: m, hf, h => by
    by_cases h1 : c.toNat = 34
    · rw [inner_quote c m h1] at h
      cases h
    · by_cases h2 : c.toNat = 92
      · cases m with
        | nil =>
          rw [inner_lone c h2] at h
          cases h
        | cons d r =>
          rw [inner_pair c d r h2] at h
          rw [List.cons_append, List.cons_append, inner_pair c d _ h2]
          exact inner_closed q t hq f r (by simp only [List.length_cons] at hf; omega) h
      · rw [inner_plain c m h1 h2] at h
        rw [List.cons_append, inner_plain c _ h1 h2]
        exact inner_closed q t hq f m (by simp only [List.length_cons] at hf; omega) h

/-- The bytes of s from place k up to its last. -/
def mid (s : ByteArray) (k : Nat) : List UInt8 := (s.data.toList.take (s.size - 1)).drop k

theorem mid_at (s : ByteArray) (k : Nat) (h : k < s.size - 1) : mid s k = s[k] :: mid s (k + 1) := by
  unfold mid
  have hl : s.data.toList.length = s.size := rfl
  rw [List.drop_eq_getElem_cons (by rw [List.length_take]; omega), List.getElem_take]
  rfl

theorem mid_end (s : ByteArray) (k : Nat) (h : s.size - 1 ≤ k) : mid s k = [] := by
  unfold mid
  exact List.drop_eq_nil_of_le (by rw [List.length_take]; omega)

/-- unquote's verdict. -/
def acc (s : ByteArray) : Bool := decide (2 ≤ s.size) && ((s.data.toList.head?.map (·.toNat)) == some 34) && ((s.data.toList.getLast?.map (·.toNat)) == some 34) && inner (mid s 1)

theorem mid_list (s : ByteArray) : mid s 1 = (s.data.toList.take (s.data.toList.length - 1)).drop 1 := rfl

/-- THE LAW, on lists. -/
def accL (l : List UInt8) : Bool := decide (2 ≤ l.length) && ((l.head?.map (·.toNat)) == some 34) && ((l.getLast?.map (·.toNat)) == some 34) && inner ((l.take (l.length - 1)).drop 1)

theorem acc_eq (s : ByteArray) : acc s = accL s.data.toList := rfl

theorem follow (v x : List UInt8) (hx : x ≠ []) (h : accL v = true) : accL (v ++ x) = false := by
  unfold accL at h
  simp only [Bool.and_eq_true, decide_eq_true_eq, beq_iff_eq] at h
  obtain ⟨⟨⟨h2, hh⟩, hlast⟩, hin⟩ := h
  match v, h2 with
  | a :: v', h2 =>
    have hv' : v' ≠ [] := by
      intro e
      subst e
      simp at h2
    obtain ⟨m, q, rfl⟩ : ∃ m q, v' = m ++ [q] := ⟨v'.dropLast, v'.getLast hv', (List.dropLast_concat_getLast hv').symm⟩
    have hq : q.toNat = 34 := by
      rw [← List.cons_append, List.getLast?_append] at hlast
      simpa using hlast
    have hm : inner m = true := by
      have e : ((a :: (m ++ [q])).take ((a :: (m ++ [q])).length - 1)).drop 1 = m := by simp
      rw [e] at hin
      exact hin
    obtain ⟨y, z, rfl⟩ : ∃ y z, x = y ++ [z] := ⟨x.dropLast, x.getLast hx, (List.dropLast_concat_getLast hx).symm⟩
    have e : (((a :: (m ++ [q])) ++ (y ++ [z])).take (((a :: (m ++ [q])) ++ (y ++ [z])).length - 1)).drop 1 = m ++ q :: y := by
      have e1 : (a :: (m ++ [q])) ++ (y ++ [z]) = (a :: (m ++ q :: y)) ++ [z] := by simp
      rw [e1, List.length_append, List.length_singleton, Nat.add_sub_cancel, List.take_left]
      rfl
    unfold accL
    rw [e, inner_closed q y hq m.length m (Nat.le_refl _) hm, Bool.and_false]

end Go.Proofs.Qxb6600368a.Plain
