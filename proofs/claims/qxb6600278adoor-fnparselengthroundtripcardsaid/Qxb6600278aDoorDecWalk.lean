/-
  THE WALK of zzB1Dec.
-/
import Derived.Test.Qxb6600278aDoorDec
namespace Go.Proofs.Qxb6600278aDoor
open Go.RowKit
open Plain
set_option linter.unusedVariables false

set_option maxHeartbeats 1000000 in
theorem dec_pos (n : Int) (w : World) (h0 : 0 < n) (h1 : n ≤ 9223372036854775807) :
    Calls Tryd.prog 11 #[.int .i64 n] w fun e w' => ∃ (l : List UInt8) (arr : Array Value), (l ≠ [] ∧ l.length ≤ 20 ∧ digs l ∧ ((spell 0 l : Nat) : Int) = n) ∧
      e = .returned (.slice (some ⟨w.heap.size + 1, 0, none⟩) l.length l.length) ∧ w' = (w.alloc (.cells arr 37)).alloc (.cells (l.map bc).toArray 5) := by
  go_enter Tryd.func11, Tryd.ntmps11
  go_wp2
  go_loopw [0, 4] (fun nv iv wr => ∃ (v : Int) (k : Nat) (l : List UInt8) (arr : Array Value), nv = .int .i64 v ∧ iv = .int .i64 k ∧ wr = w.alloc (.cells arr 37) ∧ Hid (decInv n v k l arr)) (fun nv _ _ => (intOf nv).toNat)
  case atStart => exact ⟨n, 20, [], _, rfl, rfl, rfl, dec_start n h0 _ rfl⟩
  case round =>
    obtain ⟨v, k, l, arr, rfl, rfl, rfl, HI⟩ := hrel
    obtain ⟨hvn, hk20, hk1⟩ := dec_bd HI.out h1
    by_cases hv : 0 < v
    · obtain ⟨m, rfl⟩ : ∃ m, k = m + 1 := ⟨k - 1, by have := hk1 hv; omega⟩
      have harr : arr.size = 20 := HI.out.2.2.1
      have hget : arr[m]? = some (arr[m]'(by omega)) := by simp
      have hv2 : v ≤ 9223372036854775807 := by omega
      clear hk1 hvn
      go_wp2
      go_roundw
      case rel => exact ⟨v / 10, m, _, _, rfl, rfl, rfl, dec_step HI.out⟩
      case measure => simp [intOf]; omega
    · have HE := dec_end HI.out hv h0
      have hkl : k + l.length = 20 := HI.out.2.1
      obtain ⟨made, hmade, hmk⟩ := make_row k l.length hkl
      have HM : Hid (made.size = l.length) := hmade
      have HEnd : Hid (l ≠ [] ∧ l.length ≤ 20 ∧ digs l ∧ ((spell 0 l : Nat) : Int) = n) := HE
      clear HE hmade hk1 hvn
      go_wp2
      go_loopw [6] (fun jv wr2 => ∃ (j : Nat) (arr2 : Array Value), jv = .int .i64 j ∧ wr2 = (w.alloc (.cells arr 37)).alloc (.cells arr2 5) ∧ Hid (copyInv l j arr2)) (fun jv _ => l.length - (intOf jv).toNat)
      case atStart => exact ⟨0, made, rfl, rfl, Nat.zero_le _, HM.out, by simp⟩
      case round =>
        obtain ⟨j, arr2, rfl, rfl, HC⟩ := hrel
        have harr : arr.size = 20 := HI.out.2.2.1
        have hj2 : j ≤ l.length := HC.out.1
        have ha2 : arr2.size = l.length := HC.out.2.1
        by_cases hj : j < l.length
        · have hc1 : arr[k + j]? = some (.int .u8 (l[j].toNat : Int)) := dec_cell HI.out j hj
          have hc2 : arr2[j]? = some (arr2[j]'(by omega)) := by simp
          go_wp2
          go_roundw
          case rel => exact ⟨j + 1, _, by go_num, rfl, copy_step HC.out hj⟩
          case measure => simp [intOf]; omega
        · go_wp2
          go_ret
          exact ⟨l, arr, HEnd.out, rfl, by rw [copy_end HC.out hj]⟩
end Go.Proofs.Qxb6600278aDoor
