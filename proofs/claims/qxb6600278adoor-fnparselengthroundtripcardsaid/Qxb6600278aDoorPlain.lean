/-
  THE PLAIN LAW of ParseLengthRoundTrip: no Go in sight. A row of decimal digits, zeros ahead or not, that spells a number below 2^63 is parsed to that number.
-/
import Derived.Lib.ParseIntB
namespace Go.Proofs.Qxb6600278aDoor.Plain

/-- Every byte is an ASCII decimal digit. -/
def digs (l : List UInt8) : Prop := ∀ c ∈ l, 48 ≤ c.toNat ∧ c.toNat ≤ 57

/-- What the digits spell behind a number that was spelt already. -/
def spell (acc : Nat) : List UInt8 → Nat
  | [] => acc
  | c :: r => spell (acc * 10 + (c.toNat - 48)) r

theorem spell_ge : ∀ (l : List UInt8) (acc : Nat), acc ≤ spell acc l
  | [], _ => Nat.le_refl _
  | c :: r, acc => by
    have h := spell_ge r (acc * 10 + (c.toNat - 48))
    exact Nat.le_trans (by omega) h

theorem spell_acc : ∀ (l : List UInt8) (acc : Nat), spell acc l = acc * 10 ^ l.length + spell 0 l
  | [], acc => by show acc = acc * 10 ^ 0 + 0; omega
  | c :: r, acc => by
    show spell (acc * 10 + (c.toNat - 48)) r = _
    rw [spell_acc r (acc * 10 + (c.toNat - 48))]
    show _ = acc * 10 ^ (r.length + 1) + spell (0 * 10 + (c.toNat - 48)) r
    rw [spell_acc r (0 * 10 + (c.toNat - 48)), Nat.pow_succ, Nat.add_mul, Nat.zero_mul, Nat.zero_add]
    have : acc * 10 * 10 ^ r.length = acc * (10 ^ r.length * 10) := by
      rw [Nat.mul_assoc, Nat.mul_comm 10]
    omega

theorem spell_cons (c : UInt8) (r : List UInt8) : spell 0 (c :: r) = (c.toNat - 48) * 10 ^ r.length + spell 0 r := by
  show spell (0 * 10 + (c.toNat - 48)) r = _
  rw [spell_acc r]
  simp

theorem spell_zeros (z : Nat) (l : List UInt8) : spell 0 (List.replicate z 48 ++ l) = spell 0 l := by
  induction z with
  | zero => simp
  | succ z ih =>
    rw [List.replicate_succ, List.cons_append, spell_cons, ih]
    simp

theorem digs_zeros (z : Nat) (l : List UInt8) (h : digs l) : digs (List.replicate z 48 ++ l) := by
  intro c hc
  rcases List.mem_append.1 hc with h1 | h1
  · have := List.eq_of_mem_replicate h1
    subst this
    decide
  · exact h c h1

theorem parseUintM_digs : ∀ (l : List UInt8) (acc : Nat), digs l → spell acc l < 9223372036854775808 → Lib.parseUintM (2 ^ 64 - 1) acc l = .ok (spell acc l)
  | [], _, _, _ => rfl
  | c :: r, acc, hd, hv => by
    have hc := hd c (by simp)
    have hv' : spell (acc * 10 + (c.toNat - 48)) r < 9223372036854775808 := hv
    have hg := spell_ge r (acc * 10 + (c.toNat - 48))
    have ih := parseUintM_digs r (acc * 10 + (c.toNat - 48)) (fun x hx => hd x (by simp [hx])) hv'
    unfold Lib.parseUintM
    rw [if_pos hc, if_neg (by omega), if_neg (by omega), ih]
    rfl

theorem parseIntB_digs (l : List UInt8) (hne : l ≠ []) (hd : digs l) (hv : spell 0 l < 9223372036854775808) : Lib.parseIntB 64 l = .ok (spell 0 l : Int) := by
  match l, hne with
  | c :: r, _ =>
    have hc := hd c (by simp)
    have hu := parseUintM_digs (c :: r) 0 hd hv
    unfold Lib.parseIntB
    have h1 : ¬ (c.toNat = 43 ∨ c.toNat = 45) := by omega
    have h2 : ¬ c.toNat = 45 := by omega
    simp only [if_neg h1, Lib.parseUintB, if_neg (List.cons_ne_nil c r), hu]
    rw [if_neg (by intro h; have := h.2; omega), if_neg (by intro h; exact h2 h.1), if_neg h2]

/-- THE LAW: zeros, then the digits of a number below 2^63: that number. -/
theorem round_trip (z : Nat) (l : List UInt8) (hne : l ≠ []) (hd : digs l) (hv : spell 0 l < 9223372036854775808) :
    Lib.parseIntB 64 (List.replicate z 48 ++ l) = .ok (spell 0 l : Int) := by
  have := parseIntB_digs (List.replicate z 48 ++ l) (by simp [hne]) (digs_zeros z l hd) (by rw [spell_zeros]; exact hv)
  rw [spell_zeros] at this
  exact this

end Go.Proofs.Qxb6600278aDoor.Plain
