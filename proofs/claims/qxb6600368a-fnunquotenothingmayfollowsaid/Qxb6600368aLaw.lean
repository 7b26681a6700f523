/-
  THE WALK of the law FnUnquoteNothingMayFollow, out of its callees' contracts.
-/
import Derived.Test.Qxb6600368aUnq
namespace Go.Proofs.Qxb6600368a
open Go.RowKit
open Plain
set_option linter.unusedVariables false

theorem zz_no (s : ByteArray) (w : World) (hs : s.size ≤ 1048576) (h : acc s = false) :
    Calls Try.prog 19 #[.string s] w fun e w' => e = .returned (.tuple #[.string ⟨#[]⟩, .bool false]) ∧ Below w.heap.size w w' := by
  have HU : Hid (Calls Try.prog 25 #[.string s] w fun e w' => e = .returned (.tuple #[.string ⟨#[]⟩, .bool false]) ∧ Below w.heap.size w w') := by
    refine (unq_any s w hs).mono ?_
    rintro e w' ⟨t, rfl, ht, hb⟩
    rw [ht h, h]
    exact ⟨rfl, hb⟩
  clear h
  go_enter Try.func19, Try.ntmps19
  go_wp2_with (go_at_call 25; refine HU.out.mono ?_; rintro e w1 ⟨rfl, hb⟩)
  go_ret2
  exact ⟨rfl, hb⟩

theorem zz_yes (s : ByteArray) (w : World) (hs : s.size ≤ 1048576) (h : acc s = true) :
    Calls Try.prog 19 #[.string s] w fun e w' => ∃ t, e = .returned (.tuple #[.string t, .bool true]) ∧ Below w.heap.size w w' := by
  have HU : Hid (Calls Try.prog 25 #[.string s] w fun e w' => ∃ t, e = .returned (.tuple #[.string t, .bool true]) ∧ Below w.heap.size w w') := by
    refine (unq_any s w hs).mono ?_
    rintro e w' ⟨t, rfl, ht, hb⟩
    rw [h]
    exact ⟨t, rfl, hb⟩
  clear h
  go_enter Try.func19, Try.ntmps19
  go_wp2_with (go_at_call 25; refine HU.out.mono ?_; rintro e w1 ⟨t, rfl, hb⟩)
  go_ret2
  exact ⟨t, rfl, hb⟩

theorem bytes_yes (a b : ByteArray) (w : World) (h : a.size + b.size ≤ 1048576) :
    Calls Try.prog 22 #[.string a, .string b] w fun e w' => e = .returned (.bool true) ∧ w' = w := by
  go_enter Try.func22, Try.ntmps22
  go_wp2
  go_ret
  exact ⟨rfl, rfl⟩

theorem bytes_no (a b : ByteArray) (w : World) (wa : a.size ≤ maxLen) (wb : b.size ≤ maxLen) (h : 1048576 < a.size + b.size) :
    Calls Try.prog 22 #[.string a, .string b] w fun e w' => e = .returned (.bool false) ∧ w' = w := by
  unfold maxLen at wa wb
  by_cases h1 : 1048576 < a.size
  · go_enter Try.func22, Try.ntmps22
    go_wp2
    go_ret
    exact ⟨rfl, rfl⟩
  by_cases h2 : 1048576 < b.size
  · go_enter Try.func22, Try.ntmps22
    go_wp2
    go_ret
    exact ⟨rfl, rfl⟩
  · go_enter Try.func22, Try.ntmps22
    go_wp2
    go_ret
    exact ⟨rfl, rfl⟩

theorem follow_bytes (v x : ByteArray) (hx : 0 < x.size) (h : acc v = true) : acc (v ++ x) = false := by
  rw [acc_eq] at h ⊢
  have e : (v ++ x).data.toList = v.data.toList ++ x.data.toList := by
    rw [ByteArray.data_append, Array.toList_append]
  rw [e]
  refine Plain.follow _ _ ?_ h
  intro e0
  have : x.data.toList.length = x.size := rfl
  rw [e0] at this
  simp at this
  omega

set_option maxHeartbeats 400000 in
theorem law_walk (a0 a1 : ByteArray) (w0 : a0.size ≤ maxLen) (w1 : a1.size ≤ maxLen) (w : World) :
    Calls Try.prog 9 #[.string a0, .string a1] w fun e w' => e = .returned (.bool true) ∧ Below w.heap.size w w' := by
  by_cases hsum : a0.size + a1.size ≤ 1048576
  · by_cases hx : a1.size = 0
    · have hx' : a1.size ≤ 0 := by omega
      clear hx
      go_enter Try.func9, Try.ntmps9
      go_wp2_with (go_at_call 22; refine (bytes_yes _ _ _ hsum).mono ?_; rintro e w' ⟨rfl, rfl⟩)
      go_ret
      exact ⟨rfl, Below.refl _ _⟩
    · have hx' : 0 < a1.size := by omega
      clear hx
      have hs0 : a0.size ≤ 1048576 := by omega
      cases hsc : acc a0 with
      | false =>
        have HZ : Hid (Calls Try.prog 19 #[.string a0] w fun e w' => e = .returned (.tuple #[.string ⟨#[]⟩, .bool false]) ∧ Below w.heap.size w w') := zz_no a0 w hs0 hsc
        clear hsc
        go_enter Try.func9, Try.ntmps9
        go_wp2_with (first | (go_at_call 22; refine (bytes_yes _ _ _ hsum).mono ?_; rintro e w' ⟨rfl, rfl⟩) | (go_at_call 19; refine HZ.out.mono ?_; rintro e w' ⟨rfl, hb⟩))
        go_ret
        exact ⟨rfl, hb⟩
      | true =>
        have HZ : Hid (Calls Try.prog 19 #[.string a0] w fun e w' => ∃ t, e = .returned (.tuple #[.string t, .bool true]) ∧ Below w.heap.size w w') := zz_yes a0 w hs0 hsc
        have HF : Hid (acc (a0 ++ a1) = false) := follow_bytes a0 a1 hx' hsc
        have hs1 : (a0 ++ a1).size ≤ 1048576 := by rw [ByteArray.size_append]; omega
        have HS : Hid ((a0 ++ a1).size ≤ 1048576) := hs1
        clear hsc hs1
        go_enter Try.func9, Try.ntmps9
        go_wp2_with fail
        refine (bytes_yes _ _ _ hsum).mono ?_
        rintro e w' ⟨rfl, rfl⟩
        go_wp2_with fail
        refine HZ.out.mono ?_
        rintro e w2 ⟨t, rfl, hb⟩
        go_wp2_with fail
        refine (zz_no (a0 ++ a1) _ HS.out HF.out).mono ?_
        rintro e w3 ⟨rfl, hb3⟩
        have HB : Hid (Below w'.heap.size w' w3) := hb.trans (hb3.mono hb.size)
        clear hb hb3 HZ
        go_wp2
        go_ret
        exact ⟨rfl, HB.out⟩
  · have HN : Hid (Calls Try.prog 22 #[.string a0, .string a1] w fun e w' => e = .returned (.bool false) ∧ w' = w) := bytes_no a0 a1 w w0 w1 (by omega)
    go_enter Try.func9, Try.ntmps9
    go_wp2_with (go_at_call 22; refine HN.out.mono ?_; rintro e w' ⟨rfl, rfl⟩)
    go_ret
    exact ⟨rfl, Below.refl _ _⟩
end Go.Proofs.Qxb6600368a
