/-
  THE WALK of unquote.
-/
import Derived.Test.Qxb6600368aShelf
import Derived.Test.Qxb6600368aPlain
import Derived.WalkKit
namespace Go.Proofs.Qxb6600368a
open Go.RowKit
open Plain
set_option linter.unusedVariables false

theorem head_at (s : ByteArray) (h : 0 < s.size) : s.data.toList.head?.map (·.toNat) = some s[0].toNat := by
  have hl : 0 < s.data.toList.length := h
  rw [List.head?_eq_getElem?, List.getElem?_eq_getElem hl]
  rfl
theorem last_at (s : ByteArray) (h : 0 < s.size) : s.data.toList.getLast?.map (·.toNat) = some (s[s.size - 1]'(by omega)).toNat := by
  have hl : s.data.toList.length - 1 < s.data.toList.length := by
    have : s.data.toList.length = s.size := rfl
    omega
  rw [List.getLast?_eq_getElem?, List.getElem?_eq_getElem hl]
  rfl

theorem acc_small (s : ByteArray) (h : s.size < 2) : acc s = false := by
  unfold acc
  rw [decide_eq_false (by omega)]
  rfl
theorem acc_first (s : ByteArray) (h2 : 2 ≤ s.size) (h : ¬ (s[0].toNat : Int) = 34) : acc s = false := by
  unfold acc
  rw [head_at s (by omega)]
  have : (some s[0].toNat == some 34) = false := by
    rw [beq_eq_false_iff_ne]
    intro e
    exact h (by have := Option.some.inj e; omega)
  rw [this]
  simp
theorem acc_last (s : ByteArray) (h2 : 2 ≤ s.size) (h : ¬ ((s[s.size - 1]'(by omega)).toNat : Int) = 34) : acc s = false := by
  unfold acc
  rw [last_at s (by omega)]
  have : (some (s[s.size - 1]'(by omega)).toNat == some 34) = false := by
    rw [beq_eq_false_iff_ne]
    intro e
    exact h (by have := Option.some.inj e; omega)
  rw [this]
  simp
theorem acc_inner (s : ByteArray) (h2 : 2 ≤ s.size) (h : (s[0].toNat : Int) = 34) (h' : ((s[s.size - 1]'(by omega)).toNat : Int) = 34) : acc s = inner (mid s 1) := by
  unfold acc
  rw [head_at s (by omega), last_at s (by omega), show s[0].toNat = 34 by omega, show (s[s.size - 1]'(by omega)).toNat = 34 by omega, decide_eq_true h2]
  simp

/-- What the walk hands back. -/
def Out (s : ByteArray) (w : World) (e : Ending) (w' : World) : Prop := ∃ t, e = .returned (.tuple #[.string t, .bool (acc s)]) ∧ (acc s = false → t = ⟨#[]⟩) ∧ Below w.heap.size w w'

theorem out_no {s : ByteArray} {w w' : World} (h : acc s = false) (hb : Below w.heap.size w w') : Out s w (.returned (.tuple #[.string ⟨#[]⟩, .bool false])) w' :=
  ⟨⟨#[]⟩, by rw [h], fun _ => rfl, hb⟩
theorem out_yes {s : ByteArray} {w w' : World} (t : ByteArray) (h : acc s = true) (hb : Below w.heap.size w w') : Out s w (.returned (.tuple #[.string t, .bool true])) w' :=
  ⟨t, by rw [h], (fun h' => absurd (h.symm.trans h') (by decide)), hb⟩

theorem cells_snoc (l : List UInt8) (x : UInt8) : Lib.byteCells l ++ [.int .u8 (x.toNat : Int)] = Lib.byteCells (l ++ [x]) := by
  simp [Lib.byteCells]
theorem cells_len (l : List UInt8) : (Lib.byteCells l).length = l.length := by simp [Lib.byteCells]

set_option maxHeartbeats 1000000 in
theorem unq_any (s : ByteArray) (w : World) (hs : s.size ≤ 1048576) : Calls Try.prog 25 #[.string s] w (Out s w) := by
  by_cases h2 : s.size < 2
  · have HA : Hid (acc s = false) := acc_small s h2
    go_enter Try.func25, Try.ntmps25
    go_wp2
    go_ret2
    exact out_no HA.out (Below.refl _ _)
  have h2' : 2 ≤ s.size := by omega
  clear h2
  by_cases hf : (s[0].toNat : Int) = 34
  · by_cases hl : ((s[s.size - 1]'(by omega)).toNat : Int) = 34
    · have HA : Hid (acc s = inner (mid s 1)) := acc_inner s h2' hf hl
      go_enter Try.func25, Try.ntmps25
      go_wp2
      clear hf hl
      go_loopw [5] (fun iv wr => ∃ (k : Nat) (l : List UInt8), 1 ≤ k ∧ k ≤ s.size - 1 ∧ iv = .int .i64 k ∧ l.length ≤ k ∧ Hid (inner (mid s k) = inner (mid s 1)) ∧ Hid (Lib.IsBuilder 35 5 w.heap.size w.heap.size (Lib.byteCells l) wr) ∧ Hid (Below w.heap.size w wr)) (fun iv _ => s.size - (intOf iv).toNat)
      case atStart => exact ⟨1, [], Nat.le_refl _, by omega, rfl, Nat.zero_le _, rfl, Lib.fresh_isBuilder 35 5 w, (Below.refl _ _).alloc (Nat.le_refl _) _⟩
      case round =>
        obtain ⟨k, l, hk1, hk2, rfl, hlk, HM, HBd, HBl⟩ := hrel
        by_cases hk : k < s.size - 1
        · by_cases hq : (s[k].toNat : Int) = 34
          · have HF : Hid (acc s = false) := by
              have h1 := HA.out
              rw [h1, ← HM.out, mid_at s k hk]
              exact inner_quote _ _ (by omega)
            go_wp2
            go_ret2
            exact out_no HF.out HBl.out
          · by_cases he : (s[k].toNat : Int) = 92
            · by_cases hke : k + 1 < s.size - 1
              · have HM2 : Hid (inner (mid s (k + 2)) = inner (mid s 1)) := by
                  have h1 := HM.out
                  rw [mid_at s k hk, mid_at s (k + 1) hke, inner_pair _ _ _ (by omega)] at h1
                  exact h1
                have hbs := HBl.out.size
                go_wp2_with (go_at_call 29; refine (Try.Builder_WriteByte w.heap.size w.heap.size (Lib.byteCells l) _ _ HBd.out (by rw [cells_len]; omega) hbs).mono ?_; rintro e w1 ⟨rfl, hbd1, hbl1⟩)
                go_roundw
                case rel => exact ⟨k + 2, l ++ [s[k + 1]], by omega, by omega, by go_num, by simp; omega, HM2, (by rw [← cells_snoc]; exact Or.inr hbd1), HBl.out.trans hbl1⟩
                case measure => simp [intOf]; omega
              · have HF : Hid (acc s = false) := by
                  have h1 := HA.out
                  rw [h1, ← HM.out, mid_at s k hk, mid_end s (k + 1) (by omega)]
                  exact inner_lone _ (by omega)
                have hk3 : s.size ≤ k + 2 := by omega
                go_wp2
                go_ret2
                exact out_no HF.out HBl.out
            · have HM2 : Hid (inner (mid s (k + 1)) = inner (mid s 1)) := by
                have h1 := HM.out
                rw [mid_at s k hk, inner_plain _ _ (by omega) (by omega)] at h1
                exact h1
              have hbs := HBl.out.size
              go_wp2_with (go_at_call 29; refine (Try.Builder_WriteByte w.heap.size w.heap.size (Lib.byteCells l) _ _ HBd.out (by rw [cells_len]; omega) hbs).mono ?_; rintro e w1 ⟨rfl, hbd1, hbl1⟩)
              go_roundw
              case rel => exact ⟨k + 1, l ++ [s[k]], by omega, by omega, by go_num, by simp; omega, HM2, (by rw [← cells_snoc]; exact Or.inr hbd1), HBl.out.trans hbl1⟩
              case measure => simp [intOf]; omega
        · have HT : Hid (acc s = true) := by
            have h1 := HA.out
            rw [h1, ← HM.out, mid_end s k (by omega)]
            rfl
          have hbs := HBl.out.size
          go_wp2_with (go_at_call 31; refine (Try.Builder_String_any w.heap.size w.heap.size l _ HBd.out hbs).mono ?_; rintro e w1 ⟨rfl, hbl1⟩)
          go_ret2
          exact out_yes _ HT.out (HBl.out.trans hbl1)
    · have HA : Hid (acc s = false) := acc_last s h2' hl
      have hlb : (((s[s.size - 1]'(by omega)).toNat : Int) != 34) = true := by simpa using hl
      go_enter Try.func25, Try.ntmps25
      go_wp2
      go_ret2
      exact out_no HA.out (Below.refl _ _)
  · have HA : Hid (acc s = false) := acc_first s h2' hf
    go_enter Try.func25, Try.ntmps25
    go_wp2
    go_ret2
    exact out_no HA.out (Below.refl _ _)
end Go.Proofs.Qxb6600368a
