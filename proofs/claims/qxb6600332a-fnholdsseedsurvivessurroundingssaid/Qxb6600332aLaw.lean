/-
  THE WALK of the law HoldsSeedSurvivesSurroundings, out of its callees' contracts.
-/
import Derived.Test.Qxb6600332aHold
namespace Go.Proofs.Qxb6600332a
open Go.RowKit
open Plain
set_option linter.unusedVariables false

theorem zzHolds_any (s : ByteArray) (w : World) (hs : s.size ≤ maxLen) :
    Calls Try.prog 12 #[.string s] w fun e w' => e = .returned (.bool (scan s.data.toList).2) ∧ w' = w := by
  go_enter Try.func12, Try.ntmps12
  go_wp2_with (go_at_call 21; refine (holdsSeed_any _ _ hs).mono ?_; rintro e w' ⟨rfl, rfl⟩)
  go_ret
  exact ⟨rfl, rfl⟩

theorem bytes_yes (a b c : ByteArray) (w : World) (h : a.size + b.size + c.size ≤ 1048576) :
    Calls Try.prog 13 #[.string a, .string b, .string c] w fun e w' => e = .returned (.bool true) ∧ w' = w := by
  go_enter Try.func13, Try.ntmps13
  go_wp2
  go_ret
  exact ⟨rfl, rfl⟩

theorem bytes_no (a b c : ByteArray) (w : World) (wa : a.size ≤ maxLen) (wb : b.size ≤ maxLen) (wc : c.size ≤ maxLen) (h : 1048576 < a.size + b.size + c.size) :
    Calls Try.prog 13 #[.string a, .string b, .string c] w fun e w' => e = .returned (.bool false) ∧ w' = w := by
  unfold maxLen at wa wb wc
  by_cases h1 : 1048576 < a.size
  · go_enter Try.func13, Try.ntmps13
    go_wp2
    go_ret
    exact ⟨rfl, rfl⟩
  by_cases h2 : 1048576 < b.size
  · go_enter Try.func13, Try.ntmps13
    go_wp2
    go_ret
    exact ⟨rfl, rfl⟩
  by_cases h3 : 1048576 < a.size + b.size
  · go_enter Try.func13, Try.ntmps13
    go_wp2
    go_ret
    exact ⟨rfl, rfl⟩
  by_cases h4 : 1048576 < c.size
  · go_enter Try.func13, Try.ntmps13
    go_wp2
    go_ret
    exact ⟨rfl, rfl⟩
  · go_enter Try.func13, Try.ntmps13
    go_wp2
    go_ret
    exact ⟨rfl, rfl⟩

theorem law_data (a b c : ByteArray) (h : (scan b.data.toList).2 = true) : (scan (a ++ b ++ c).data.toList).2 = true := by
  have e : (a ++ b ++ c).data.toList = a.data.toList ++ b.data.toList ++ c.data.toList := by
    rw [ByteArray.data_append, ByteArray.data_append, Array.toList_append, Array.toList_append]
  rw [e]
  exact survives _ _ _ h

set_option maxHeartbeats 400000 in
theorem law_walk (a0 a1 a2 : ByteArray) (w0 : a0.size ≤ maxLen) (w1 : a1.size ≤ maxLen) (w2 : a2.size ≤ maxLen) (w : World) :
    Calls Try.prog 5 #[.string a0, .string a1, .string a2] w fun e w' => e = .returned (.bool true) ∧ w' = w := by
  by_cases hsum : a0.size + a1.size + a2.size ≤ 1048576
  · cases hsc : (scan a1.data.toList).2 with
    | false =>
      have hz : Calls Try.prog 12 #[.string a1] w fun e w' => e = .returned (.bool false) ∧ w' = w := by
        have := zzHolds_any a1 w w1
        rwa [hsc] at this
      have HZ : Hid (Calls Try.prog 12 #[.string a1] w fun e w' => e = .returned (.bool false) ∧ w' = w) := hz
      clear hz hsc
      go_enter Try.func5, Try.ntmps5
      go_wp2_with (first | (go_at_call 13; refine (bytes_yes _ _ _ _ hsum).mono ?_; rintro e w' ⟨rfl, rfl⟩) | (go_at_call 12; refine (HZ.out).mono ?_; rintro e w' ⟨rfl, rfl⟩))
      go_ret
      exact ⟨rfl, rfl⟩
    | true =>
      have hz : Calls Try.prog 12 #[.string a1] w fun e w' => e = .returned (.bool true) ∧ w' = w := by
        have := zzHolds_any a1 w w1
        rwa [hsc] at this
      have hz2 : Calls Try.prog 12 #[.string (a0 ++ a1 ++ a2)] w fun e w' => e = .returned (.bool true) ∧ w' = w := by
        have := zzHolds_any (a0 ++ a1 ++ a2) w (by rw [ByteArray.size_append, ByteArray.size_append]; unfold maxLen; omega)
        rwa [law_data a0 a1 a2 hsc] at this
      have HZ : Hid (Calls Try.prog 12 #[.string a1] w fun e w' => e = .returned (.bool true) ∧ w' = w) := hz
      have HZ2 : Hid (Calls Try.prog 12 #[.string (a0 ++ a1 ++ a2)] w fun e w' => e = .returned (.bool true) ∧ w' = w) := hz2
      clear hz hz2 hsc
      go_enter Try.func5, Try.ntmps5
      go_wp2_with fail
      refine (bytes_yes _ _ _ _ hsum).mono ?_
      rintro e w' ⟨rfl, rfl⟩
      go_wp2_with fail
      refine HZ.out.mono ?_
      rintro e w' ⟨rfl, rfl⟩
      go_wp2_with fail
      refine HZ2.out.mono ?_
      rintro e w' ⟨rfl, rfl⟩
      go_wp2
      go_ret
      exact ⟨rfl, rfl⟩
  · have HN : Hid (Calls Try.prog 13 #[.string a0, .string a1, .string a2] w fun e w' => e = .returned (.bool false) ∧ w' = w) := bytes_no a0 a1 a2 w w0 w1 w2 (by omega)
    go_enter Try.func5, Try.ntmps5
    go_wp2_with (go_at_call 13; refine (HN.out).mono ?_; rintro e w' ⟨rfl, rfl⟩)
    go_ret
    exact ⟨rfl, rfl⟩
end Go.Proofs.Qxb6600332a
