/-
  THE WALK of the law FnApartKeepsWithMoreLastsOrFewerFirsts.
-/
import Derived.Test.Qxb6600446aApart
import Derived.RegionTactic
import Derived.BigRegion
namespace Go.Proofs.Qxb6600446a
open Go.RowKit
open Plain
set_option linter.unusedVariables false

/-- An array of 256 words, as a value's cells. -/
def Row (c : Array Value) (F : Nat → Nat) : Prop := c.size = 256 ∧ (∀ i, i < 256 → c[i]? = some (.int .u64 (F i : Int))) ∧ ∀ i, F i < 2 ^ 64

theorem setCell_drewN (w : World) (n : Nat) (a : Addr) (v : Value) : (w.drewN n).setCell a v = (w.setCell a v).drewN n := rfl
theorem alloc_drewN (w : World) (n : Nat) (o : Obj) : (w.drewN n).alloc o = (w.alloc o).drewN n := rfl
attribute [local go_sem] setCell_drewN alloc_drewN

theorem zero42_run (w : World) : Sem.run Try.prog (zeroValue 42) w = .ok (.agg (Array.replicate 256 (.int .u64 0))) w := by kernel_rfl
/-- 'var f2 [256]uint64'. -/
theorem zero42 : ∃ zs : Array Value, Row zs (fun _ => 0) ∧ ∀ w, Sem.run Try.prog (zeroValue 42) w = .ok (.agg zs) w := by
  refine ⟨Array.replicate 256 (.int .u64 0), ⟨Array.size_replicate, fun i hi => ?_, fun _ => Nat.pow_pos (by decide)⟩, zero42_run⟩
  rw [Array.getElem?_replicate, if_pos hi]
  rfl

/-- The first k words are P's, the rest 0. -/
def upTo (P : Nat → Nat) (k i : Nat) : Nat := if i < k then P i else 0

theorem row_zero {zs : Array Value} (P : Nat → Nat) (h : Row zs (fun _ => 0)) : Row zs (upTo P 0) := h
theorem row_set {g : Array Value} {P : Nat → Nat} {k : Nat} (h : Row g (upTo P k)) (hk : k < 256) (v : Int) (hv : v = (P k : Int)) (hb : P k < 2 ^ 64) : Row (g.setIfInBounds k (.int .u64 v)) (upTo P (k + 1)) := by
  obtain ⟨h1, h2, h3⟩ := h
  refine ⟨by rw [Array.size_setIfInBounds]; exact h1, fun i hi => ?_, fun i => ?_⟩
  · rw [Array.getElem?_setIfInBounds]
    unfold upTo
    by_cases hki : k = i
    · subst hki
      rw [if_pos rfl, if_pos (by omega), if_pos (by omega), hv]
    · rw [if_neg hki, h2 i hi]
      unfold upTo
      by_cases hik : i < k
      · rw [if_pos hik, if_pos (by omega)]
      · rw [if_neg hik, if_neg (by omega)]
  · have := h3 i
    unfold upTo at this ⊢
    by_cases hik : i < k
    · rw [if_pos hik] at this
      rw [if_pos (by omega)]
      exact this
    · by_cases hki : i = k
      · rw [if_pos (by omega), hki]
        exact hb
      · rw [if_neg (by omega)]
        exact Nat.pow_pos (by decide)

def andn (a d : Nat) : Nat := a &&& (2 ^ 64 - 1 - d)

theorem andn_bits (a d : Nat) (ha : a < 2 ^ 64) (hd : d < 2 ^ 64) : bits .andNot .u64 (a : Int) (d : Int) = (andn a d : Int) := by
  have e64 : (2 : Nat) ^ 64 = 18446744073709551616 := by decide
  rw [u64_andNot_nat a d (by omega) (by omega)]
  rfl
theorem or_bits (a d : Nat) (ha : a < 2 ^ 64) (hd : d < 2 ^ 64) : bits .or .u64 (a : Int) (d : Int) = ((a ||| d : Nat) : Int) := by
  have e64 : (2 : Nat) ^ 64 = 18446744073709551616 := by decide
  rw [u64_or_nat a d (by omega) (by omega)]

def LoopRel (F L D A : Nat → Nat) (w1 : World) (iv : Value) (wr : World) : Prop :=
  ∃ (k n : Nat) (g h : Array Value), k ≤ 256 ∧ iv = .int .i64 k ∧ wr = ((w1.alloc (.cells g 42)).alloc (.cells h 42)).drewN n ∧
    Hid (Row g (upTo (fun i => andn (F i) (D i)) k)) ∧ Hid (Row h (upTo (fun i => L i ||| A i) k))

/-- The law, at the two maps that the Go text makes. -/
theorem keeps (F L D A : Nat → Nat) (h : apartB F L = true) : apartB (fun i => andn (F i) (D i)) (fun i => L i ||| A i) = true := by
  refine apart_keeps F L _ _ (fun k j hj => ?_) (fun k j hj => ?_) h
  · rw [andn, Nat.testBit_and, Bool.and_eq_true] at hj
    exact hj.1
  · rw [Nat.testBit_or, hj]
    rfl

theorem four_cell (w : World) (c0 c1 c2 c3 : Array Value) (n i : Nat) :
    (((((w.alloc (.cells c0 42)).alloc (.cells c1 42)).alloc (.cells c2 42)).alloc (.cells c3 42)).drewN n).cell? ⟨w.heap.size, i, none⟩ = c0[i]? ∧
    (((((w.alloc (.cells c0 42)).alloc (.cells c1 42)).alloc (.cells c2 42)).alloc (.cells c3 42)).drewN n).cell? ⟨w.heap.size + 1, i, none⟩ = c1[i]? ∧
    (((((w.alloc (.cells c0 42)).alloc (.cells c1 42)).alloc (.cells c2 42)).alloc (.cells c3 42)).drewN n).cell? ⟨w.heap.size + 1 + 1, i, none⟩ = c2[i]? ∧
    (((((w.alloc (.cells c0 42)).alloc (.cells c1 42)).alloc (.cells c2 42)).alloc (.cells c3 42)).drewN n).cell? ⟨w.heap.size + 1 + 1 + 1, i, none⟩ = c3[i]? := by
  refine ⟨?_, ?_, ?_, ?_⟩
  · rw [World.cell?_drewN, World.cell?_alloc_past _ _ _ (by simp <;> omega), World.cell?_alloc_past _ _ _ (by simp <;> omega), World.cell?_alloc_past _ _ _ (by simp), World.cell?_alloc_at _ _ _ _ rfl]
  · rw [World.cell?_drewN, World.cell?_alloc_past _ _ _ (by simp <;> omega), World.cell?_alloc_past _ _ _ (by simp), World.cell?_alloc_at _ _ _ _ (by simp)]
  · rw [World.cell?_drewN, World.cell?_alloc_past _ _ _ (by simp), World.cell?_alloc_at _ _ _ _ (by simp)]
  · rw [World.cell?_drewN, World.cell?_alloc_at _ _ _ _ (by simp)]

theorem four_below (w : World) (c0 c1 c2 c3 : Array Value) (n : Nat) : Below w.heap.size w (((((w.alloc (.cells c0 42)).alloc (.cells c1 42)).alloc (.cells c2 42)).alloc (.cells c3 42)).drewN n) :=
  ((((Below.refl _ w).alloc (Nat.le_refl _) _).alloc (by simp) _).alloc (by simp <;> omega) _).alloc (by simp <;> omega) _ |>.trans ⟨rfl, rfl, rfl, Nat.le_refl _, fun _ _ => rfl⟩

theorem two_cell (w : World) (g h : Array Value) (n i : Nat) :
    (((w.alloc (.cells g 42)).alloc (.cells h 42)).drewN n).cell? ⟨w.heap.size, i, none⟩ = g[i]? ∧ (((w.alloc (.cells g 42)).alloc (.cells h 42)).drewN n).cell? ⟨w.heap.size + 1, i, none⟩ = h[i]? := by
  refine ⟨?_, ?_⟩
  · rw [World.cell?_drewN, World.cell?_alloc_past _ _ _ (by simp), World.cell?_alloc_at _ _ _ _ rfl]
  · rw [World.cell?_drewN, World.cell?_alloc_at _ _ _ _ (by simp)]

theorem two_below (w : World) (g h : Array Value) (n m : Nat) : Below w.heap.size w ((((w.alloc (.cells g 42)).alloc (.cells h 42)).drewN n).drewN m) :=
  ((Below.refl _ w).alloc (Nat.le_refl _) _).alloc (by simp) _ |>.trans ⟨rfl, rfl, rfl, Nat.le_refl _, fun _ _ => rfl⟩

/-- The second call: over the two maps that the loop has laid. -/
theorem second (F L D A : Nat → Nat) (w : World) (g h : Array Value) (n : Nat) (hg : Row g (upTo (fun i => andn (F i) (D i)) 256)) (hh : Row h (upTo (fun i => L i ||| A i) 256))
    (bF : ∀ i, F i < 2 ^ 64) (bL : ∀ i, L i < 2 ^ 64) (bA : ∀ i, A i < 2 ^ 64) (hap : apartB F L = true) :
    Calls Try.prog 25 #[.pointer (some ⟨w.heap.size, 0, none⟩), .pointer (some ⟨w.heap.size + 1, 0, none⟩)] (((w.alloc (.cells g 42)).alloc (.cells h 42)).drewN n) fun e w' => e = .returned (.bool true) ∧ Below w.heap.size w w' := by
  refine (zzApart_any w.heap.size (w.heap.size + 1) (fun i => andn (F i) (D i)) (fun i => L i ||| A i) _ (fun i => and_lt_of _ _ (bF i)) (fun i => Nat.or_lt_two_pow (bL i) (bA i)) (fun i hi => ?_) (fun i hi => ?_) true (keeps F L D A hap)).mono ?_
  · rw [(two_cell w g h n i).1, hg.2.1 i hi]
    unfold upTo
    rw [if_pos hi]
  · rw [(two_cell w g h n i).2, hh.2.1 i hi]
    unfold upTo
    rw [if_pos hi]
  · rintro e w' ⟨rfl, m, rfl⟩
    exact ⟨rfl, two_below w g h n m⟩

set_option maxHeartbeats 1000000 in
theorem law_walk (c0 c1 c2 c3 : Array Value) (F L D A : Nat → Nat) (h0 : Row c0 F) (h1 : Row c1 L) (h2 : Row c2 D) (h3 : Row c3 A) (w : World) :
    Calls Try.prog 8 #[.agg c0, .agg c1, .agg c2, .agg c3] w fun e w' => e = .returned (.bool true) ∧ Below w.heap.size w w' := by
  have HA : ∀ r, apartB F L = r → Calls Try.prog 25 #[.pointer (some ⟨w.heap.size, 0, none⟩), .pointer (some ⟨w.heap.size + 1, 0, none⟩)] ((((w.alloc (.cells c0 42)).alloc (.cells c1 42)).alloc (.cells c2 42)).alloc (.cells c3 42)) fun e w' => e = .returned (.bool r) ∧ ∃ n, w' = ((((w.alloc (.cells c0 42)).alloc (.cells c1 42)).alloc (.cells c2 42)).alloc (.cells c3 42)).drewN n := fun r hr =>
    zzApart_any w.heap.size (w.heap.size + 1) F L _ h0.2.2 h1.2.2 (fun i hi => ((four_cell w c0 c1 c2 c3 0 i).1).trans (h0.2.1 i hi)) (fun i hi => ((four_cell w c0 c1 c2 c3 0 i).2.1).trans (h1.2.1 i hi)) r hr
  cases hap : apartB F L with
  | false =>
    have HC : Hid (Calls Try.prog 25 #[.pointer (some ⟨w.heap.size, 0, none⟩), .pointer (some ⟨w.heap.size + 1, 0, none⟩)] ((((w.alloc (.cells c0 42)).alloc (.cells c1 42)).alloc (.cells c2 42)).alloc (.cells c3 42)) fun e w' => e = .returned (.bool false) ∧ ∃ n, w' = ((((w.alloc (.cells c0 42)).alloc (.cells c1 42)).alloc (.cells c2 42)).alloc (.cells c3 42)).drewN n) := HA false hap
    clear HA h0 h1 h2 h3 hap
    go_enter Try.func8, Try.ntmps8
    go_wp2_with fail
    refine HC.out.mono ?_
    rintro e w2 ⟨rfl, n, rfl⟩
    clear HC
    go_wp2
    go_ret
    exact ⟨rfl, four_below w c0 c1 c2 c3 n⟩
  | true =>
    have HC : Hid (Calls Try.prog 25 #[.pointer (some ⟨w.heap.size, 0, none⟩), .pointer (some ⟨w.heap.size + 1, 0, none⟩)] ((((w.alloc (.cells c0 42)).alloc (.cells c1 42)).alloc (.cells c2 42)).alloc (.cells c3 42)) fun e w' => e = .returned (.bool true) ∧ ∃ n, w' = ((((w.alloc (.cells c0 42)).alloc (.cells c1 42)).alloc (.cells c2 42)).alloc (.cells c3 42)).drewN n) := HA true hap
    have HAp : Hid (apartB F L = true) := hap
    have R0 : Hid (Row c0 F) := h0
    have R1 : Hid (Row c1 L) := h1
    have R2 : Hid (Row c2 D) := h2
    have R3 : Hid (Row c3 A) := h3
    clear HA h0 h1 h2 h3 hap
    obtain ⟨zs, hzs, hzv⟩ := zero42
    have HZ : Hid (Row zs (fun _ => 0)) := hzs
    clear hzs
    go_enter Try.func8, Try.ntmps8
    go_wp2_with fail
    refine HC.out.mono ?_
    rintro e w2 ⟨rfl, n0, hw2⟩
    have H0 : Hid (∀ i, i < 256 → w2.cell? ⟨w.heap.size, i, none⟩ = some (.int .u64 (F i : Int))) := fun i hi => by rw [hw2, (four_cell w c0 c1 c2 c3 n0 i).1]; exact R0.out.2.1 i hi
    have H1 : Hid (∀ i, i < 256 → w2.cell? ⟨w.heap.size + 1, i, none⟩ = some (.int .u64 (L i : Int))) := fun i hi => by rw [hw2, (four_cell w c0 c1 c2 c3 n0 i).2.1]; exact R1.out.2.1 i hi
    have H2 : Hid (∀ i, i < 256 → w2.cell? ⟨w.heap.size + 1 + 1, i, none⟩ = some (.int .u64 (D i : Int))) := fun i hi => by rw [hw2, (four_cell w c0 c1 c2 c3 n0 i).2.2.1]; exact R2.out.2.1 i hi
    have H3 : Hid (∀ i, i < 256 → w2.cell? ⟨w.heap.size + 1 + 1 + 1, i, none⟩ = some (.int .u64 (A i : Int))) := fun i hi => by rw [hw2, (four_cell w c0 c1 c2 c3 n0 i).2.2.2]; exact R3.out.2.1 i hi
    have HB : Hid (Below w.heap.size w w2) := by rw [hw2]; exact four_below w c0 c1 c2 c3 n0
    have hsz : w.heap.size + 3 < w2.heap.size := by rw [hw2]; simp
    clear HC hw2
    go_wp2
    go_loopw [11] (fun iv wr => LoopRel F L D A w2 iv wr) (fun iv _ => 256 - (intOf iv).toNat)
    case atStart => exact ⟨0, 0, zs, zs, by omega, rfl, rfl, row_zero _ HZ.out, row_zero _ HZ.out⟩
    case round =>
      obtain ⟨k, n, g, h, hk, rfl, rfl, HG, HH⟩ := hrel
      by_cases hlt : k < 256
      · have hkI : (k : Int) < 256 := by omega
        obtain ⟨fk, hfk⟩ : ∃ fk : Int, fk = (F k : Int) := ⟨_, rfl⟩
        obtain ⟨lk, hlk⟩ : ∃ lk : Int, lk = (L k : Int) := ⟨_, rfl⟩
        obtain ⟨dk, hdk⟩ : ∃ dk : Int, dk = (D k : Int) := ⟨_, rfl⟩
        obtain ⟨ak, hak⟩ : ∃ ak : Int, ak = (A k : Int) := ⟨_, rfl⟩
        have hc0 : w2.cell? ⟨w.heap.size, k, none⟩ = some (.int .u64 fk) := by rw [hfk]; exact H0.out k hlt
        have hc1 : w2.cell? ⟨w.heap.size + 1, k, none⟩ = some (.int .u64 lk) := by rw [hlk]; exact H1.out k hlt
        have hc2 : w2.cell? ⟨w.heap.size + 1 + 1, k, none⟩ = some (.int .u64 dk) := by rw [hdk]; exact H2.out k hlt
        have hc3 : w2.cell? ⟨w.heap.size + 1 + 1 + 1, k, none⟩ = some (.int .u64 ak) := by rw [hak]; exact H3.out k hlt
        have HG' : Hid (Row (g.setIfInBounds k (.int .u64 (bits .andNot .u64 fk dk))) (upTo (fun i => andn (F i) (D i)) (k + 1))) :=
          row_set HG.out hlt _ (by rw [hfk, hdk]; exact andn_bits _ _ (R0.out.2.2 k) (R2.out.2.2 k)) (and_lt_of _ _ (R0.out.2.2 k))
        have HH' : Hid (Row (h.setIfInBounds k (.int .u64 (bits .or .u64 lk ak))) (upTo (fun i => L i ||| A i) (k + 1))) :=
          row_set HH.out hlt _ (by rw [hlk, hak]; exact or_bits _ _ (R1.out.2.2 k) (R3.out.2.2 k)) (Nat.or_lt_two_pow (R1.out.2.2 k) (R3.out.2.2 k))
        clear hfk hlk hdk hak
        have hgs : g.size = 256 := HG.out.1
        have hhs : h.size = 256 := HH.out.1
        have hgk : g[k]? = some (g[k]'(by omega)) := by simp
        have hhk : h[k]? = some (h[k]'(by omega)) := by simp
        have s0 : w.heap.size < w2.heap.size := by omega
        have s1 : w.heap.size + 1 < w2.heap.size := by omega
        have s2 : w.heap.size + 1 + 1 < w2.heap.size := by omega
        have s3 : w.heap.size + 1 + 1 + 1 < w2.heap.size := by omega
        go_wp2
        go_region
        go_wp2
        go_region
        go_wp2
        go_roundw
        case rel => exact ⟨k + 1, _, _, _, by omega, by go_num, rfl, HG', HH'⟩
        case measure => simp [intOf]; omega
      · have ek : k = 256 := by omega
        have HS : Hid (Calls Try.prog 25 #[.pointer (some ⟨w2.heap.size, 0, none⟩), .pointer (some ⟨w2.heap.size + 1, 0, none⟩)] (((w2.alloc (.cells g 42)).alloc (.cells h 42)).drewN n) fun e w' => e = .returned (.bool true) ∧ Below w2.heap.size w2 w') :=
          second F L D A w2 g h n (by have := HG.out; rw [ek] at this; exact this) (by have := HH.out; rw [ek] at this; exact this) R0.out.2.2 R1.out.2.2 R3.out.2.2 HAp.out
        have hkI : decide ((k : Int) < 256) = false := decide_eq_false (by omega)
        clear ek hlt hk
        go_wp2_with (go_at_call 25; refine HS.out.mono ?_; rintro e w3 ⟨rfl, hb3⟩)
        go_ret
        exact ⟨rfl, HB.out.trans (hb3.mono HB.out.size)⟩
end Go.Proofs.Qxb6600446a
