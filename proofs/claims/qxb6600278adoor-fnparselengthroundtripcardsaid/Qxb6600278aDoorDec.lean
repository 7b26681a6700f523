/-
  THE WALK of zzB1Dec: a number above 0 is laid as its decimal digits.
-/
import Derived.Test.Qxb6600278aDoorProg
import Derived.Test.Qxb6600278aDoorPlain
import Derived.WalkKit
namespace Go.Proofs.Qxb6600278aDoor
open Go.RowKit
open Plain
set_option linter.unusedVariables false

/-- A byte as a cell. -/
def bc (b : UInt8) : Value := .int .u8 (b.toNat : Int)

theorem Tryd.info5 : (Tryd.prog.info? 5).map (fun i => (i.zero, i.size, i.bytes)) = some (some (.int .u8 0), 1, 1) := by kernel_rfl

/-- What the first loop keeps: v is what is left of n; the digits l lie from place k on. -/
def decInv (n v : Int) (k : Nat) (l : List UInt8) (arr : Array Value) : Prop :=
  0 ≤ v ∧ k + l.length = 20 ∧ arr.size = 20 ∧ arr.toList.drop k = l.map bc ∧ digs l ∧ v * ((10 ^ l.length : Nat) : Int) + ((spell 0 l : Nat) : Int) = n

theorem dec_start (n : Int) (h : 0 < n) (arr : Array Value) (ha : arr.size = 20) : decInv n n 20 [] arr := by
  refine ⟨by omega, rfl, ha, ?_, (fun c hc => absurd hc (by simp)), ?_⟩
  · rw [List.drop_eq_nil_of_le (by rw [Array.length_toList]; omega)]
    rfl
  · show n * ((10 ^ 0 : Nat) : Int) + ((0 : Nat) : Int) = n
    rw [Nat.pow_zero]
    omega

theorem dec_bd {n v : Int} {k : Nat} {l : List UInt8} {arr : Array Value} (h : decInv n v k l arr) (hn : n ≤ 9223372036854775807) : v ≤ n ∧ k ≤ 20 ∧ (0 < v → 1 ≤ k) := by
  obtain ⟨h0, hk, _, _, _, hs⟩ := h
  have hp : (1 : Int) ≤ ((10 ^ l.length : Nat) : Int) := by
    have : 0 < 10 ^ l.length := Nat.pow_pos (by decide)
    omega
  have hm : v * 1 ≤ v * ((10 ^ l.length : Nat) : Int) := Int.mul_le_mul_of_nonneg_left hp h0
  refine ⟨by omega, by omega, fun hv => ?_⟩
  by_cases hk0 : 1 ≤ k
  · exact hk0
  · have hl : l.length = 20 := by omega
    rw [hl] at hs hp hm
    have hm2 : 1 * ((10 ^ 20 : Nat) : Int) ≤ v * ((10 ^ 20 : Nat) : Int) := Int.mul_le_mul_of_nonneg_right (by omega) (by omega)
    have e20 : ((10 ^ 20 : Nat) : Int) = 100000000000000000000 := by decide
    rw [e20] at hm2 hs
    omega

theorem dig_toNat (v : Int) (h : 0 ≤ v) : (UInt8.ofNat (48 + v % 10).toNat).toNat = (48 + v % 10).toNat := by
  rw [UInt8.toNat_ofNat']
  omega

theorem bc_dig (v : Int) (h : 0 ≤ v) : bc (UInt8.ofNat (48 + v % 10).toNat) = .int .u8 (48 + v % 10) := by
  unfold bc
  rw [dig_toNat v h]
  congr 1
  omega

theorem dec_step {n v : Int} {m : Nat} {l : List UInt8} {arr : Array Value} (h : decInv n v (m + 1) l arr) :
    decInv n (v / 10) m (UInt8.ofNat (48 + v % 10).toNat :: l) (arr.setIfInBounds m (.int .u8 (48 + v % 10))) := by
  obtain ⟨h0, hk, ha, hd, hg, hs⟩ := h
  have hdn := dig_toNat v h0
  refine ⟨by omega, by rw [List.length_cons]; omega, by rw [Array.size_setIfInBounds]; exact ha, ?_, ?_, ?_⟩
  · rw [Array.toList_setIfInBounds, List.map_cons, bc_dig v h0, List.drop_eq_getElem_cons (by rw [List.length_set, Array.length_toList]; omega), List.getElem_set_self, List.drop_set_of_lt (by omega), hd]
  · intro c hc
    rcases List.mem_cons.1 hc with rfl | hc
    · rw [hdn]; omega
    · exact hg c hc
  · rw [spell_cons, hdn, List.length_cons, Nat.pow_succ]
    have e1 : (((48 + v % 10).toNat - 48 : Nat) : Int) = v % 10 := by omega
    rw [Int.natCast_add, Int.natCast_mul, Int.natCast_mul, e1]
    have e2 : v / 10 * (((10 ^ l.length : Nat) : Int) * ((10 : Nat) : Int)) = (v / 10 * 10) * ((10 ^ l.length : Nat) : Int) := by
      rw [Int.mul_comm ((10 ^ l.length : Nat) : Int), ← Int.mul_assoc]
      rfl
    rw [e2, ← Int.add_assoc, ← Int.add_mul, show v / 10 * 10 + v % 10 = v by omega]
    exact hs

theorem dec_end {n v : Int} {k : Nat} {l : List UInt8} {arr : Array Value} (h : decInv n v k l arr) (hv : ¬ 0 < v) (hn : 0 < n) :
    l ≠ [] ∧ l.length ≤ 20 ∧ digs l ∧ ((spell 0 l : Nat) : Int) = n := by
  obtain ⟨h0, hk, ha, hd, hg, hs⟩ := h
  have hv0 : v = 0 := by omega
  subst hv0
  rw [Int.zero_mul, Int.zero_add] at hs
  refine ⟨?_, by omega, hg, hs⟩
  rintro rfl
  have : ((spell 0 [] : Nat) : Int) = 0 := rfl
  omega

/-- 'make([]byte, 20-i)'. -/
theorem make_row (k len : Nat) (h : k + len = 20) : ∃ made : Array Value, made.size = len ∧ ∀ w : World,
    (Instr.makeSlice 25 (.int .i64 (20 - (k : Int))) (.int .i64 (20 - (k : Int)))).run Tryd.prog w = .ok (.slice (some ⟨w.heap.size, 0, none⟩) len len) (w.alloc (.cells made 5)) := by
  obtain ⟨i0, hi, hz0, hz1, hz2⟩ := info_parts Tryd.info5
  refine ⟨madeCells (Value.int .u8 0).cells (len * i0.size), by rw [size_madeCells, hz1]; omega, fun w => ?_⟩
  have hr := run_make (P := Tryd.prog) w 25 5 i0 (.int .u8 0) Tryd.underlying25 hi hz0 .i64 .i64 (20 - (k : Int)) (20 - (k : Int)) (by omega) (by omega) (by rw [hz2]; omega) (by omega)
  rw [show (20 - (k : Int)).toNat = len by omega] at hr
  exact hr

/-- What the second loop keeps: the first j cells of the new row are the digits. -/
def copyInv (l : List UInt8) (j : Nat) (arr2 : Array Value) : Prop := j ≤ l.length ∧ arr2.size = l.length ∧ arr2.toList.take j = (l.take j).map bc

theorem copy_step {l : List UInt8} {j : Nat} {arr2 : Array Value} (h : copyInv l j arr2) (hj : j < l.length) : copyInv l (j + 1) (arr2.setIfInBounds j (bc l[j])) := by
  obtain ⟨h1, h2, h3⟩ := h
  refine ⟨hj, by rw [Array.size_setIfInBounds]; exact h2, ?_⟩
  rw [Array.toList_setIfInBounds, List.take_succ_eq_append_getElem (by rw [List.length_set, Array.length_toList]; omega), List.getElem_set_self, List.take_set_of_le (Nat.le_refl _), h3, List.take_succ_eq_append_getElem hj, List.map_append]
  rfl

theorem copy_end {l : List UInt8} {j : Nat} {arr2 : Array Value} (h : copyInv l j arr2) (hj : ¬ j < l.length) : arr2 = (l.map bc).toArray := by
  obtain ⟨h1, h2, h3⟩ := h
  have hjl : j = l.length := by omega
  subst hjl
  rw [List.take_of_length_le (by rw [Array.length_toList]; omega), List.take_length] at h3
  rw [← h3]

theorem dec_cell {n v : Int} {k : Nat} {l : List UInt8} {arr : Array Value} (h : decInv n v k l arr) (j : Nat) (hj : j < l.length) : arr[k + j]? = some (bc l[j]) := by
  obtain ⟨h0, hk, ha, hd, hg, hs⟩ := h
  have := congrArg (fun x => x[j]?) hd
  simp only [List.getElem?_drop, List.getElem?_map, List.getElem?_eq_getElem hj, Option.map_some] at this
  rw [← Array.getElem?_toList]
  exact this
end Go.Proofs.Qxb6600278aDoor
