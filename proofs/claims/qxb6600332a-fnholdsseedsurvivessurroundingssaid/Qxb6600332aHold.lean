/-
  THE WALKS of HoldsSeedSurvivesSurroundings: holdsSeed, the bound on lengths, the law.
-/
import Derived.Test.Qxb6600332aProg
import Derived.Test.Qxb6600332aPlain
import Derived.WalkKit
namespace Go.Proofs.Qxb6600332a
open Go.RowKit
open Plain
set_option linter.unusedVariables false

theorem ret_bool {a b : Bool} (h : a = b) : Ending.returned (.bool a) = .returned (.bool b) := by rw [h]

theorem b32_of {x : Nat} (h : (97 ≤ x ∧ x ≤ 122) ∨ (65 ≤ x ∧ x ≤ 90) ∨ (50 ≤ x ∧ x ≤ 55)) : b32 (up x) = true := by
  unfold b32 up
  rw [decide_eq_true_eq]
  split <;> omega
theorem b32_not {x : Nat} (h : x < 50 ∨ (55 < x ∧ x < 65) ∨ (90 < x ∧ x < 97) ∨ 122 < x) : b32 (up x) = false := by
  unfold b32 up
  rw [decide_eq_false_iff_not]
  split <;> omega
theorem up_S {x : Nat} : up x = 83 ↔ x = 83 ∨ x = 115 := by
  unfold up
  split <;> omega

/-- What one round of the loop comes to, at a base32 character. -/
theorem round_yes (s : ByteArray) (m : Nat) (R : Int) (hm : m < s.size) (hR : R = runAt s (m + 1)) (hs : seenAt s (m + 1) = false) (hx : (97 ≤ s[m].toNat ∧ s[m].toNat ≤ 122) ∨ (65 ≤ s[m].toNat ∧ s[m].toNat ≤ 90) ∨ (50 ≤ s[m].toNat ∧ s[m].toNat ≤ 55)) :
    ((s[m].toNat = 83 ∨ s[m].toNat = 115) → 58 ≤ R + 1 → (scan s.data.toList).2 = true) ∧
    (¬ ((s[m].toNat = 83 ∨ s[m].toNat = 115) ∧ 58 ≤ R + 1) → runAt s m = R + 1 ∧ seenAt s m = false) := by
  obtain ⟨h1, h2⟩ := at_yes s m hm hs (b32_of hx)
  rw [← hR] at h1 h2
  constructor
  · intro a b
    exact seen_all s m (by rw [h2]; exact decide_eq_true ⟨up_S.2 a, b⟩)
  · intro a
    exact ⟨h1, by rw [h2]; exact decide_eq_false fun h => a ⟨up_S.1 h.1, h.2⟩⟩

theorem isB_yes (c : Int) (w : World) (h : (65 ≤ c ∧ c ≤ 90) ∨ (50 ≤ c ∧ c ≤ 55)) :
    Calls Try.prog 23 #[.int .u8 c] w fun e w' => e = .returned (.bool true) ∧ w' = w := by
  rcases h with ⟨h1, h2⟩ | ⟨h1, h2⟩
  all_goals
    go_enter Try.func23, Try.ntmps23
    go_wp2
    go_ret
    exact ⟨rfl, rfl⟩

theorem isB_no (c : Int) (w : World) (h : c < 50 ∨ (55 < c ∧ c < 65) ∨ 90 < c) :
    Calls Try.prog 23 #[.int .u8 c] w fun e w' => e = .returned (.bool false) ∧ w' = w := by
  rcases h with h1 | ⟨h1, h2⟩ | h1
  · have a1 : ¬ 65 ≤ c := by omega
    have a2 : ¬ 50 ≤ c := by omega
    go_enter Try.func23, Try.ntmps23
    go_wp2
    go_ret
    exact ⟨rfl, rfl⟩
  · have a1 : ¬ 65 ≤ c := by omega
    have a2 : 50 ≤ c := by omega
    have a3 : ¬ c ≤ 55 := by omega
    go_enter Try.func23, Try.ntmps23
    go_wp2
    go_ret
    exact ⟨rfl, rfl⟩
  · have a1 : 65 ≤ c := by omega
    have a2 : ¬ c ≤ 90 := by omega
    have a3 : 50 ≤ c := by omega
    have a4 : ¬ c ≤ 55 := by omega
    go_enter Try.func23, Try.ntmps23
    go_wp2
    go_ret
    exact ⟨rfl, rfl⟩

theorem toNat_pred (m : Nat) : ((m : Int) - 1 + 1).toNat = m := by omega

set_option maxHeartbeats 1000000 in
theorem holdsSeed_any (s : ByteArray) (w : World) (hs : s.size ≤ maxLen) :
    Calls Try.prog 21 #[.string s] w fun e w' => e = .returned (.bool (scan s.data.toList).2) ∧ w' = w := by
  unfold maxLen at hs
  have HE := at_end s
  have AE : Hid (runAt s s.size = 0 ∧ seenAt s s.size = false) := HE
  clear HE
  go_enter Try.func21, Try.ntmps21
  go_wp2
  go_loop [3, 4] (fun r i => ∃ j R : Int, -1 ≤ j ∧ j < s.size ∧ i = .int .i64 j ∧ r = .int .i64 R ∧ Hid (R = runAt s (j + 1).toNat ∧ seenAt s (j + 1).toNat = false)) (fun _ i => (intOf i + 1).toNat)
  case atStart =>
    refine ⟨(s.size : Int) - 1, 0, by omega, by omega, rfl, rfl, ?_⟩
    rw [toNat_pred]
    exact ⟨AE.out.1.symm, AE.out.2⟩
  case round =>
    obtain ⟨j, R, hj1, hj2, rfl, rfl, HR⟩ := hrel
    by_cases hj : 0 ≤ j
    · obtain ⟨m, rfl⟩ : ∃ m : Nat, j = m := ⟨j.toNat, by omega⟩
      obtain ⟨hR, hseen⟩ := HR.out
      have em : ((m : Int) + 1).toNat = m + 1 := by omega
      rw [em] at hR hseen
      have hm : m < s.size := by omega
      have hb0 := runAt_bd s (m + 1)
      have hb1 := runAt_lt s (m + 1) (by omega)
      rw [← hR] at hb0 hb1
      have hR1 : 0 ≤ R := hb0.1
      have hR2 : R ≤ 9223372036854775806 := by omega
      clear hb0 hb1 em HR AE
      by_cases hx : (97 ≤ s[m].toNat ∧ s[m].toNat ≤ 122) ∨ (65 ≤ s[m].toNat ∧ s[m].toNat ≤ 90) ∨ (50 ≤ s[m].toNat ∧ s[m].toNat ≤ 55)
      · have FY := round_yes s m R hm hR hseen hx
        have HY : Hid (((s[m].toNat = 83 ∨ s[m].toNat = 115) → 58 ≤ R + 1 → (scan s.data.toList).2 = true) ∧
            (¬ ((s[m].toNat = 83 ∨ s[m].toNat = 115) ∧ 58 ≤ R + 1) → runAt s m = R + 1 ∧ seenAt s m = false)) := FY
        have hxI : (97 ≤ (s[m].toNat : Int) ∧ (s[m].toNat : Int) ≤ 122) ∨ (65 ≤ (s[m].toNat : Int) ∧ (s[m].toNat : Int) ≤ 90) ∨ (50 ≤ (s[m].toNat : Int) ∧ (s[m].toNat : Int) ≤ 55) := by omega
        clear FY hR hseen hx
        rcases hxI with ⟨hx1, hx2⟩ | ⟨hx1, hx2⟩ | ⟨hx1, hx2⟩
        all_goals
          go_wp2_with (go_at_call 23; refine (isB_yes _ _ (by omega)).mono ?_; rintro e w' ⟨rfl, rfl⟩)
          all_goals first
            | (go_ret; exact ⟨ret_bool (HY.out.1 (by omega) (by omega)).symm, rfl⟩)
            | (go_round
               case rel => exact ⟨(m : Int) - 1, R + 1, by omega, by omega, rfl, rfl, by rw [toNat_pred]; exact ⟨(HY.out.2 (by omega)).1.symm, (HY.out.2 (by omega)).2⟩⟩
               case measure => simp [intOf])
      · have hx' : s[m].toNat < 50 ∨ (55 < s[m].toNat ∧ s[m].toNat < 65) ∨ (90 < s[m].toNat ∧ s[m].toNat < 97) ∨ 122 < s[m].toNat := by omega
        have FN := at_no s m hm hseen (b32_not hx')
        have HN : Hid (runAt s m = 0 ∧ seenAt s m = false) := FN
        have hxI : (s[m].toNat : Int) < 50 ∨ (55 < (s[m].toNat : Int) ∧ (s[m].toNat : Int) < 65) ∨ (90 < (s[m].toNat : Int) ∧ (s[m].toNat : Int) < 97) ∨ (122 < (s[m].toNat : Int) ∧ 97 ≤ (s[m].toNat : Int)) := by omega
        clear FN hR hseen hx hx'
        rcases hxI with hx1 | ⟨hx1, hx2⟩ | ⟨hx1, hx2⟩ | ⟨hx1, hx2⟩
        all_goals
          go_wp2_with (go_at_call 23; refine (isB_no _ _ (by omega)).mono ?_; rintro e w' ⟨rfl, rfl⟩)
          go_round
          case rel => exact ⟨(m : Int) - 1, 0, by omega, by omega, rfl, rfl, by rw [toNat_pred]; exact ⟨HN.out.1.symm, HN.out.2⟩⟩
          case measure => simp [intOf]
    · obtain ⟨hR, hseen⟩ := HR.out
      have e0 : (j + 1).toNat = 0 := by omega
      rw [e0] at hseen
      have hseen : (scan s.data.toList).2 = false := hseen
      have HS : Hid ((scan s.data.toList).2 = false) := hseen
      clear hR hseen HR AE
      go_wp2
      go_ret
      exact ⟨ret_bool HS.out.symm, rfl⟩
end Go.Proofs.Qxb6600332a
