/-
  THE WALK of the law FnParseLengthRoundTrip, out of its callees' contracts.
-/
import Derived.Test.Qxb6600278aDoorDecWalk
import Derived.Test.Qxb6600278aDoorParse
import Derived.OwnWalk
import Derived.Deep.DeepMust
namespace Go.Proofs.Qxb6600278aDoor
open Go.RowKit
open Plain
set_option linter.unusedVariables false

theorem dec_zero (w : World) :
    Calls Tryd.prog 11 #[.int .i64 0] w fun e w' => e = .returned (.slice (some ⟨w.heap.size, 0, none⟩) 1 1) ∧ w' = w.alloc (.cells #[.int .u8 48] 5) := by
  go_enter Tryd.func11, Tryd.ntmps11
  go_wp2
  go_ret
  exact ⟨rfl, rfl⟩

/-- The digits of n: not empty, at most 20, and they spell n. -/
def spells (n : Int) (l : List UInt8) : Prop := l ≠ [] ∧ l.length ≤ 20 ∧ digs l ∧ ((spell 0 l : Nat) : Int) = n

theorem spells_zero : spells 0 [48] := by
  refine ⟨by simp, by simp, ?_, rfl⟩
  intro c hc
  rw [List.mem_singleton] at hc
  subst hc
  decide

theorem dec_any (n : Int) (w : World) (h0 : 0 ≤ n) (h1 : n ≤ 9223372036854775807) :
    Calls Tryd.prog 11 #[.int .i64 n] w fun e w' => ∃ (l : List UInt8) (b : Nat), e = .returned (.slice (some ⟨b, 0, none⟩) l.length l.length) ∧ spells n l ∧
      b < w'.heap.size ∧ (∀ j u, (l.map bc)[j]? = some u → w'.cell? ⟨b, j, none⟩ = some u) ∧ Below w.heap.size w w' := by
  by_cases hn : 0 < n
  · refine (dec_pos n w hn h1).mono ?_
    rintro e w' ⟨l, arr, hl, rfl, rfl⟩
    refine ⟨l, w.heap.size + 1, rfl, hl, by simp, ?_, ((Below.refl _ _).alloc (Nat.le_refl _) _).alloc (by simp) _⟩
    intro j u hj
    rw [World.cell?_alloc_at _ _ _ _ (by simp)]
    simpa using hj
  · have e0 : n = 0 := by omega
    subst e0
    refine (dec_zero w).mono ?_
    rintro e w' ⟨rfl, rfl⟩
    refine ⟨[48], w.heap.size, rfl, spells_zero, by simp, ?_, (Below.refl _ _).alloc (Nat.le_refl _) _⟩
    intro j u hj
    rw [World.cell?_alloc_at _ _ _ _ rfl]
    simpa [bc] using hj

/-- 'string(buf)' at the row that the law has built. -/
theorem conv_row (z : Nat) (l : List UInt8) (g cap : Nat) (w : World) (hown : w.ownsRow g 5 1 (.slice (some ⟨g, 0, none⟩) (z + l.length) cap) (z + l.length) (List.replicate z (.int .u8 48) ++ l.map bc)) :
    ∃ s : ByteArray, Hid (s.data.toList = List.replicate z 48 ++ l) ∧ (convert 25 9 (.slice (some ⟨g, 0, none⟩) (z + l.length) cap)).run Tryd.prog w = .ok (.string s) w := by
  refine ⟨⟨(List.replicate z 48 ++ l).toArray⟩, ?_, ?_⟩
  · unfold Hid
    rfl
  have hlen : (List.replicate z (48 : UInt8) ++ l).length = z + l.length := by simp
  have := run_convert_bytes_back (P := Tryd.prog) w 25 9 5 ⟨g, 0, none⟩ cap (List.replicate z 48 ++ l) Tryd.underlying25 Tryd.underlying5 Tryd.underlying9 (by
    intro j hj
    have hc := hown.cellAt j (by rw [hlen] at hj; omega)
    have e : (List.replicate z (Value.int .u8 48) ++ l.map bc) = (List.replicate z 48 ++ l).map bc := by
      rw [List.map_append, List.map_replicate]
      rfl
    rw [e, List.getElem?_map, List.getElem?_eq_getElem hj] at hc
    have ea : (⟨g, 0, none⟩ : Addr).add j = ⟨g, j, none⟩ := by rw [Addr.add_lit, Nat.zero_add]
    rw [ea]
    exact hc)
  rw [hlen] at this
  exact this

theorem one_cell (w : World) : ∀ j u, [Value.int .u8 48][j]? = some u → (w.alloc (.cells #[.int .u8 48] 5)).cell? ((⟨w.heap.size, 0, none⟩ : Addr).add j) = some u := by
  intro j u hj
  rw [Addr.add_lit, Nat.zero_add, World.cell?_alloc_at _ _ _ _ rfl]
  simpa using hj
theorem one_one : ∀ u ∈ [Value.int .u8 48], u.oneCell' = true := by
  intro u hu
  rw [List.mem_singleton] at hu
  subst hu
  rfl
theorem bc_one (l : List UInt8) : ∀ u ∈ l.map bc, u.oneCell' = true := by
  intro u hu
  obtain ⟨b, _, rfl⟩ := List.mem_map.1 hu
  rfl

set_option maxHeartbeats 1000000 in
theorem law_go (n : Int) (z : Nat) (w : World) (h0 : 0 ≤ n) (h1 : n ≤ 9223372036854775807) (hz : z ≤ 65536) :
    Calls Tryd.prog 4 #[.int .i64 n, .int .i64 z] w fun e w' => e = .returned (.bool true) ∧ Below w.heap.size w w' := by
  obtain ⟨i0, hi, hz0, hz1, hz2⟩ := info_parts Tryd.info5
  go_enter Tryd.func4, Tryd.ntmps4
  go_wp2_with fail
  refine (dec_any n w h0 h1).mono ?_
  rintro e w1 ⟨l, b, rfl, hsp, hb, hcells, hbel⟩
  have hlen : l.length ≤ 20 := hsp.2.1
  have HSP : Hid (spells n l) := hsp
  have HC : Hid (∀ j u, (l.map bc)[j]? = some u → w1.cell? ⟨b, j, none⟩ = some u) := hcells
  have HB : Hid (Below w.heap.size w w1) := hbel
  have hsize : w.heap.size ≤ w1.heap.size := hbel.size
  clear hsp hcells hbel
  go_wp2_with (at_make; refine wpList_make_own _ rfl _ _ 25 rfl w1.heap.size 5 i0 (.int .u8 0) 1 Tryd.underlying25 hi hz0 hz1 .i64 .i64 _ (z + l.length) rfl rfl (by omega) (by rw [hz2]; omega) (by unfold maxLen; omega) (Nat.le_refl _) ?_; intro w2 hown2 hgrow2)
  have HO2 : Hid (w2.ownsRow w1.heap.size 5 1 (.slice (some ⟨w1.heap.size, 0, none⟩) 0 (z + l.length)) 0 []) := hown2
  have HB2 : Hid (Below w1.heap.size w1 w2) := (Below.refl _ _).grown hgrow2 (Nat.le_refl _) (fun k hk => by cases hk)
  clear hown2 hgrow2
  obtain ⟨g, hg⟩ : ∃ g, g = w1.heap.size := ⟨_, rfl⟩
  rw [← hg] at HO2 HB2 hb hsize
  rw [← hg]
  clear hg
  go_loopw [6, 7] (fun bv iv wr => ∃ k : Nat, k ≤ z ∧ iv = .int .i64 k ∧ bv = .slice (some ⟨g, 0, none⟩) k (z + l.length) ∧ Hid (wr.ownsRow g 5 1 (.slice (some ⟨g, 0, none⟩) k (z + l.length)) k (List.replicate k (.int .u8 48))) ∧ Hid (Below g w1 wr)) (fun _ iv _ => z - (intOf iv).toNat)
  case atStart => exact ⟨0, Nat.zero_le _, rfl, rfl, HO2, HB2⟩
  case round =>
    obtain ⟨k, hk, rfl, rfl, HO, HBr⟩ := hrel
    clear HO2 HB2
    by_cases hlt : k < z
    · go_wp2_with (at_builtin; go_must (refine wpList_append_fits _ rfl (.tmp 30) (.tmp 31) 25 rfl g 5 i0 1 Tryd.underlying25 hi hz1 g k (z + l.length) _ rfl (HO.out.alloc _) ⟨wr.heap.size, 0, none⟩ 1 1 [.int .u8 48] rfl rfl (one_cell _) one_one (by omega) ?_); intro w3 hown3 hgrow3)
      have hgs : g ≤ wr.heap.size := Nat.le_of_lt (HO.out.lt g rfl).2
      have HO3 : Hid (w3.ownsRow g 5 1 (.slice (some ⟨g, 0, none⟩) (k + 1) (z + l.length)) (k + 1) (List.replicate (k + 1) (.int .u8 48))) := by
        rw [← List.replicate_append_replicate] 
        exact hown3
      have HB3 : Hid (Below g w1 w3) := (HBr.out.alloc hgs _).grown hgrow3 (by simp; omega) (fun j hj => by cases hj; exact Nat.le_refl _)
      clear hown3 hgrow3 HO HBr hgs
      go_roundw
      case rel => exact ⟨k + 1, by omega, by go_num, rfl, HO3, HB3⟩
      case measure => simp [intOf]; omega
    · have ekz : k = z := by omega
      subst ekz
      have HSrc : Hid (∀ j u, (l.map bc)[j]? = some u → wr.cell? ((⟨b, 0, none⟩ : Addr).add j) = some u) := by
        intro j u hj
        rw [Addr.add_lit, Nat.zero_add, HBr.out.cell (p := ⟨b, j, none⟩) hb]
        exact HC.out j u hj
      go_wp2_with (at_builtin; go_must (refine wpList_append_fits _ rfl (.tmp 33) (.tmp 34) 25 rfl g 5 i0 1 Tryd.underlying25 hi hz1 g k (k + l.length) _ rfl HO.out ⟨b, 0, none⟩ l.length l.length (l.map bc) rfl (by simp) HSrc.out (bc_one l) (by omega) ?_); intro w4 hown4 hgrow4; obtain ⟨s, HSD, hconv⟩ := conv_row k l g (k + l.length) w4 hown4)
      obtain ⟨hne, _, hdg, hsp⟩ := HSP.out
      have hsz : s.size = k + l.length := by
        have e1 : s.size = s.data.toList.length := rfl
        rw [e1, HSD.out]
        simp
      have hl1 : 0 < l.length := by
        cases l with
        | nil => exact absurd rfl hne
        | cons a t => simp
      have hp : Lib.parseIntB 64 s.data.toList = .ok n := by
        rw [HSD.out, round_trip k l hne hdg (by omega), hsp]
      refine (parse_any s n w4 (by omega) (by omega) (by rw [HSD.out]; exact digs_zeros k l hdg) hp).mono ?_
      rintro e w5 ⟨rfl, hb5⟩
      have hgs : g ≤ wr.heap.size := Nat.le_of_lt (HO.out.lt g rfl).2
      have HF : Hid (Below w.heap.size w w5) := by
        have b1 := HBr.out.grown hgrow4 hgs (fun j hj => by cases hj; exact Nat.le_refl _)
        have b2 := b1.trans (hb5.mono (Nat.le_trans hgs hgrow4.size))
        exact HB.out.trans (b2.mono hsize)
      clear hb5 hgs hown4 hgrow4 hp hsz hconv hdg hsp
      go_wp2
      go_ret
      exact ⟨rfl, HF.out⟩

theorem law_out (n zeros : Int) (w : World) (h : n < 0 ∨ zeros < 0 ∨ 65536 < zeros) :
    Calls Tryd.prog 4 #[.int .i64 n, .int .i64 zeros] w fun e w' => e = .returned (.bool true) ∧ Below w.heap.size w w' := by
  by_cases h1 : n < 0
  · go_enter Tryd.func4, Tryd.ntmps4
    go_wp2
    go_ret
    exact ⟨rfl, Below.refl _ _⟩
  by_cases h2 : zeros < 0
  · go_enter Tryd.func4, Tryd.ntmps4
    go_wp2
    go_ret
    exact ⟨rfl, Below.refl _ _⟩
  · have h3 : 65536 < zeros := by omega
    clear h
    go_enter Tryd.func4, Tryd.ntmps4
    go_wp2
    go_ret
    exact ⟨rfl, Below.refl _ _⟩

/-- THE LAW's WALK, every input. -/
theorem law_walk (n zeros : Int) (w : World) (h1 : n ≤ 9223372036854775807) :
    Calls Tryd.prog 4 #[.int .i64 n, .int .i64 zeros] w fun e w' => e = .returned (.bool true) ∧ Below w.heap.size w w' := by
  by_cases h : n < 0 ∨ zeros < 0 ∨ 65536 < zeros
  · exact law_out n zeros w h
  · obtain ⟨z, rfl⟩ : ∃ z : Nat, zeros = z := ⟨zeros.toNat, by omega⟩
    exact law_go n z w (by omega) h1 (by omega)
end Go.Proofs.Qxb6600278aDoor
