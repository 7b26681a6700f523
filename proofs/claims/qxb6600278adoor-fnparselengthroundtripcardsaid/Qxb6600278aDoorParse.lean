/-
  THE WALK of ParseLength at a row of digits that spells a number below 2^63.
-/
import Derived.Test.Qxb6600278aDoorShelf
import Derived.Test.Qxb6600278aDoorDec
import Derived.WalkKit
namespace Go.Proofs.Qxb6600278aDoor
open Go.RowKit
open Plain
set_option linter.unusedVariables false

theorem not_empty (s : ByteArray) (h : 0 < s.size) : s.toList.isEmpty = false := by
  rw [ByteArray.toList_eq, List.isEmpty_eq_false_iff]
  intro e
  have : s.data.toList.length = s.size := rfl
  rw [e] at this
  simp at this
  omega

theorem digs_at (s : ByteArray) (h : digs s.data.toList) (k : Nat) (hk : k < s.size) : (48 : Int) ≤ (s[k].toNat : Int) ∧ (s[k].toNat : Int) ≤ 57 := by
  have := h s[k] (by
    have : s.data.toList[k]'(by simpa using hk) ∈ s.data.toList := List.getElem_mem _
    exact this)
  omega

set_option maxHeartbeats 400000 in
theorem parse_any (s : ByteArray) (v : Int) (w : World) (hs : s.size ≤ 9223372036854775806) (hne : 0 < s.size) (hd : digs s.data.toList) (hp : Lib.parseIntB 64 s.data.toList = .ok v) :
    Calls Tryd.prog 9 #[.string s] w fun e w' => e = .returned (.tuple #[.int .i64 v, .bool true]) ∧ Below w.heap.size w w' := by
  have HP : Hid (Lib.parseIntB 64 s.data.toList = .ok v) := hp
  have HD : Hid (digs s.data.toList) := hd
  have hnm := not_empty s hne
  clear hp hd
  go_enter Tryd.func9, Tryd.ntmps9
  go_wp2
  go_loop [4] (fun i => ∃ k : Nat, k ≤ s.size ∧ i = .int .i64 k) (fun i => s.size - (intOf i).toNat)
  case atStart => exact ⟨0, Nat.zero_le _, rfl⟩
  case round =>
    obtain ⟨k, hk, rfl⟩ := hrel
    by_cases hlt : k < s.size
    · obtain ⟨hc1, hc2⟩ := digs_at s HD.out k hlt
      go_wp2
      go_round
      case rel => exact ⟨k + 1, by omega, by go_num⟩
      case measure => simp [intOf]; omega
    · go_wp2_with fail
      refine (Tryd.strconv_ParseInt_10_at64_ok s hs v HP.out _).mono ?_
      rintro e w1 ⟨rfl, hw1⟩
      have hb : Below w.heap.size w w1 := by
        rcases hw1 with rfl | ⟨t, rfl⟩
        · exact Below.refl _ _
        · exact Lib.bytesWorld_below _ _ _
      clear hw1
      go_wp2
      go_region
      all_goals (try go_wp2)
      all_goals go_ret2
      all_goals exact ⟨rfl, hb.drew⟩
end Go.Proofs.Qxb6600278aDoor
