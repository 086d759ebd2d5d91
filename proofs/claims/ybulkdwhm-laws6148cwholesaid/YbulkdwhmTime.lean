import Derived.Test.YbulkdwhmRows
import Derived.Test.YbulkdwhmGen
import Derived.Deep.RegionHeld3
import Derived.Laws.BitsAllLaws
namespace Go.Proofs.Ybulkdwhm
open Go.RowKit
set_option linter.unusedVariables false
set_option linter.unusedSimpArgs false

theorem and_mask {W : Int} (h0 : 0 ≤ W) (h1 : W < 1000000000) : bits .and .u64 W 1073741823 = W := by
  rw [u64_and W _ h0 (by omega) (by omega) (by omega)]
  rw [show (1073741823 : Int).toNat = 2 ^ 30 - 1 from rfl, Nat.and_two_pow_sub_one_eq_mod, Nat.mod_eq_of_lt (by omega)]
  omega
theorem nat_and_high {n : Nat} (h : n < 1000000000) : n &&& 2 ^ 63 = 0 := by
  refine Nat.eq_of_testBit_eq fun i => ?_
  rw [Nat.testBit_and, Nat.testBit_two_pow, Nat.zero_testBit]
  by_cases e : 63 = i
  · subst e
    rw [Nat.testBit_lt_two_pow (Nat.lt_of_lt_of_le h (by decide))]
    rfl
  · simp [e]
theorem and_mono {W : Int} (h0 : 0 ≤ W) (h1 : W < 1000000000) : bits .and .u64 W 9223372036854775808 = 0 := by
  rw [u64_and W _ h0 (by omega) (by omega) (by omega)]
  rw [show (9223372036854775808 : Int).toNat = 2 ^ 63 from rfl, nat_and_high (by omega)]
  rfl
theorem and_mono2 {W V : Int} (h0 : 0 ≤ W) (h1 : W < 1000000000) (h2 : 0 ≤ V) (h3 : V < 1000000000) : bits .and .u64 (bits .and .u64 W V) 9223372036854775808 = 0 := by
  rw [u64_and W V h0 (by omega) h2 (by omega)]
  refine u64_zero (Nat.lt_of_le_of_lt Nat.and_le_left (by omega))
where
  u64_zero {n : Nat} (h : n < 1000000000) : bits .and .u64 (n : Int) 9223372036854775808 = 0 := and_mono (by omega) (by omega)
theorem or_zero {W : Int} (h0 : 0 ≤ W) (h1 : W < 1000000000) : bits .or .u64 0 W = W := by
  rw [u64_or 0 W (by omega) (by omega) h0 (by omega)]
  simp
  omega
theorem andNot_zero : bits .andNot .u64 0 1073741823 = 0 := by decide +kernel

set_option maxHeartbeats 400000 in
theorem nsec_spec (b off : Nat) (W : Int) (w : World) (hc : w.cell? ⟨b, off, none⟩ = some (.int .u64 W)) (h0 : 0 ≤ W) (h1 : W < 1000000000) :
    Calls Yba.prog 25 #[.pointer (some ⟨b, off, none⟩)] w fun e w' => e = .returned (.int .i32 W) ∧ w' = w := by
  have e1 := and_mask h0 h1
  go_enter Yba.func25, Yba.ntmps25
  go_wp2_with fail
  go_ret
  exact ⟨rfl, rfl⟩

set_option maxHeartbeats 400000 in
theorem sec_spec (b off : Nat) (W X : Int) (w : World) (hc : w.cell? ⟨b, off, none⟩ = some (.int .u64 W)) (hx : w.cell? ⟨b, off + 1, none⟩ = some (.int .i64 X)) (h0 : 0 ≤ W) (h1 : W < 1000000000) :
    Calls Yba.prog 29 #[.pointer (some ⟨b, off, none⟩)] w fun e w' => e = .returned (.int .i64 X) ∧ w' = w := by
  have e1 := and_mono h0 h1
  go_enter Yba.func29, Yba.ntmps29
  go_wp2_with fail
  go_ret
  exact ⟨rfl, rfl⟩

set_option maxHeartbeats 400000 in
theorem addSec_spec (b : Nat) (W d : Int) (w : World) (hc : w.cell? ⟨b, 0, none⟩ = some (.int .u64 W)) (hx : w.cell? ⟨b, 1, none⟩ = some (.int .i64 0)) (hf : w.frozen? ⟨b, 1, none⟩ = false) (h0 : 0 ≤ W) (h1 : W < 1000000000) (hd0 : -9223372037 ≤ d) (hd1 : d ≤ 9223372037) :
    Calls Yba.prog 26 #[.pointer (some ⟨b, 0, none⟩), .int .i64 d] w fun e w' => e = .returned (.tuple #[]) ∧ w' = w.setCell ⟨b, 1, none⟩ (.int .i64 d) := by
  have e1 := and_mono h0 h1
  go_enter Yba.func26, Yba.ntmps26
  go_wp2_with fail
  go_end0
  exact ⟨rfl, rfl⟩

theorem time_parts (ns : Int) (h0 : -9223372036854775808 ≤ ns) (h1 : ns ≤ 9223372036854775807) : ∃ q r : Int, ns.tdiv 1000000000 = q ∧ ns.tmod 1000000000 = r ∧ ns = 1000000000 * q + r ∧ -1000000000 < r ∧ r < 1000000000 ∧ -9223372037 < q ∧ q < 9223372037 := by
  refine ⟨_, _, rfl, rfl, (Int.mul_tdiv_add_tmod ns 1000000000).symm, ?_⟩
  rcases Int.lt_or_le ns 0 with h | h
  · have e : ns = -(-ns) := by omega
    rw [e, Int.neg_tmod, Int.neg_tdiv, Int.tmod_eq_emod_of_nonneg (by omega), Int.tdiv_eq_ediv_of_nonneg (by omega)]
    omega
  · rw [Int.tmod_eq_emod_of_nonneg h, Int.tdiv_eq_ediv_of_nonneg h]
    omega

/-- The time ns nanoseconds behind the zero time. -/
def T (ns : Int) : Value := .agg #[.int .u64 (ns % 1000000000), .int .i64 (ns / 1000000000), .pointer none]

set_option maxHeartbeats 400000 in
theorem add_time (ns : Int) (w : World) (h0 : -9223372036854775808 ≤ ns) (h1 : ns ≤ 9223372036854775807) :
    Calls Yba.prog 12 #[.agg #[.int .u64 0, .int .i64 0, .pointer none], .int .i64 ns] w fun e w' => e = .returned (T ns) ∧ Below w.heap.size w w' := by
  have e0 := andNot_zero
  obtain ⟨q, r, hq, hr, hn, r0, r1, q0, q1⟩ := time_parts ns h0 h1
  have HN := hide hn
  clear hn
  by_cases hneg : r < 0
  · have e1 := or_zero (W := r + 1000000000) (by omega) (by omega)
    have e2 := and_mono (W := r + 1000000000) (by omega) (by omega)
    have HT := hide (show T ns = .agg #[.int .u64 (r + 1000000000), .int .i64 (q - 1), .pointer none] from by have := HN.out; unfold T; rw [show ns % 1000000000 = r + 1000000000 from by omega, show ns / 1000000000 = q - 1 from by omega])
    go_enter Yba.func12, Yba.ntmps12
    go_wp2_with fail
    refine (nsec_spec w.heap.size 0 0 _ (by simp) (by omega) (by omega)).mono ?_
    rintro e w1 ⟨rfl, rfl⟩
    go_wp2_with fail
    refine (addSec_spec w.heap.size (r + 1000000000) (q - 1) _ (by simp) (by simp) (by simp) (by omega) (by omega) (by omega) (by omega)).mono ?_
    rintro e w1 ⟨rfl, rfl⟩
    go_wp2_with fail
    exact bodyPost_ret (results_cell_row rfl _ _ (w.heap.size + 1) 56 _ (0, 0) _ rfl (heap_alloc2_new _ _ _) Yba.underlying56 rfl (by kernel_rfl)) rfl ⟨by rw [HT.out], ((Below.refl _ _).alloc (Nat.le_refl _) _).alloc (by simp) _⟩
  · have e1 := or_zero (W := r) (by omega) (by omega)
    have e2 := and_mono (W := r) (by omega) (by omega)
    have HT := hide (show T ns = .agg #[.int .u64 r, .int .i64 q, .pointer none] from by have := HN.out; unfold T; rw [show ns % 1000000000 = r from by omega, show ns / 1000000000 = q from by omega])
    go_enter Yba.func12, Yba.ntmps12
    go_wp2_with fail
    refine (nsec_spec w.heap.size 0 0 _ (by simp) (by omega) (by omega)).mono ?_
    rintro e w1 ⟨rfl, rfl⟩
    go_wp2_with fail
    refine (addSec_spec w.heap.size r q _ (by simp) (by simp) (by simp) (by omega) (by omega) (by omega) (by omega)).mono ?_
    rintro e w1 ⟨rfl, rfl⟩
    go_wp2_with fail
    exact bodyPost_ret (results_cell_row rfl _ _ (w.heap.size + 1) 56 _ (0, 0) _ rfl (heap_alloc2_new _ _ _) Yba.underlying56 rfl (by kernel_rfl)) rfl ⟨by rw [HT.out], ((Below.refl _ _).alloc (Nat.le_refl _) _).alloc (by simp) _⟩

set_option maxHeartbeats 400000 in
theorem equal_same (ns : Int) (w : World) :
    Calls Yba.prog 14 #[T ns, T ns] w fun e w' => e = .returned (.bool true) ∧ Below w.heap.size w w' := by
  have q0 : 0 ≤ ns % 1000000000 := by omega
  have q1 : ns % 1000000000 < 1000000000 := by omega
  unfold T
  generalize ns % 1000000000 = W at *
  generalize ns / 1000000000 = X at *
  have e1 := and_mono2 q0 q1 q0 q1
  go_enter Yba.func14, Yba.ntmps14
  go_wp2_with fail
  refine (sec_spec w.heap.size 0 W X _ (by simp) (by simp) q0 q1).mono ?_
  rintro e w1 ⟨rfl, rfl⟩
  go_wp2_with fail
  refine (sec_spec (w.heap.size + 1) 0 W X _ (by simp) (by simp) q0 q1).mono ?_
  rintro e w1 ⟨rfl, rfl⟩
  go_wp2_with fail
  refine (nsec_spec w.heap.size 0 W _ (by simp) q0 q1).mono ?_
  rintro e w1 ⟨rfl, rfl⟩
  go_wp2_with fail
  refine (nsec_spec (w.heap.size + 1) 0 W _ (by simp) q0 q1).mono ?_
  rintro e w1 ⟨rfl, rfl⟩
  go_wp2_with fail
  go_ret
  exact ⟨by simp, ((Below.refl _ _).alloc (Nat.le_refl _) _).alloc (by simp) _⟩

theorem after_iff (a b : Int) : (b < a) ↔ (b / 1000000000 < a / 1000000000 ∨ (a / 1000000000 = b / 1000000000 ∧ b % 1000000000 < a % 1000000000)) := by omega

set_option maxHeartbeats 1000000 in
theorem after_spec (a b : Int) (w : World) :
    Calls Yba.prog 45 #[T a, T b] w fun e w' => e = .returned (.bool (decide (b < a))) ∧ Below w.heap.size w w' := by
  have p0 : 0 ≤ a % 1000000000 := by omega
  have p1 : a % 1000000000 < 1000000000 := by omega
  have q0 : 0 ≤ b % 1000000000 := by omega
  have q1 : b % 1000000000 < 1000000000 := by omega
  have HI := hide (after_iff a b)
  unfold T
  generalize a % 1000000000 = W at *
  generalize a / 1000000000 = X at *
  generalize b % 1000000000 = V at *
  generalize b / 1000000000 = Y at *
  have e1 := and_mono2 p0 p1 q0 q1
  go_enter Yba.func45, Yba.ntmps45
  go_wp2_with fail
  refine (sec_spec w.heap.size 0 W X _ (by simp) (by simp) p0 p1).mono ?_
  rintro e w1 ⟨rfl, rfl⟩
  go_wp2_with fail
  refine (sec_spec (w.heap.size + 1) 0 V Y _ (by simp) (by simp) q0 q1).mono ?_
  rintro e w1 ⟨rfl, rfl⟩
  by_cases h1 : Y < X
  · have HD := hide (show decide (b < a) = true from by simp [HI.out, h1])
    go_wp2_with fail
    go_ret
    exact ⟨by rw [HD.out]; rfl, ((Below.refl _ _).alloc (Nat.le_refl _) _).alloc (by simp) _⟩
  · by_cases h2 : X = Y
    · subst h2
      have HD := hide (show decide (b < a) = decide (V < W) from by simp [HI.out])
      go_wp2_with fail
      refine (nsec_spec w.heap.size 0 W _ (by simp) p0 p1).mono ?_
      rintro e w1 ⟨rfl, rfl⟩
      go_wp2_with fail
      refine (nsec_spec (w.heap.size + 1) 0 V _ (by simp) q0 q1).mono ?_
      rintro e w1 ⟨rfl, rfl⟩
      go_wp2_with fail
      go_ret
      exact ⟨by rw [HD.out]; rfl, ((Below.refl _ _).alloc (Nat.le_refl _) _).alloc (by simp) _⟩
    · have HD := hide (show decide (b < a) = decide (Y < X) from by simp [HI.out, h2])
      have h2' : (X == Y) = false := by simp [h2]
      go_wp2_with fail
      go_ret
      exact ⟨by rw [HD.out]; rfl, ((Below.refl _ _).alloc (Nat.le_refl _) _).alloc (by simp) _⟩

/-- A grant. -/
def G (c s p : ByteArray) (l : Bool) (ns : Int) : Value := .agg #[.string c, .string s, .string p, .bool l, .int .u64 (ns % 1000000000), .int .i64 (ns / 1000000000), .pointer none]

set_option maxHeartbeats 1000000 in
theorem eq_same (c s p : ByteArray) (l : Bool) (ns : Int) (w : World) :
    Calls Yba.prog 15 #[G c s p l ns, G c s p l ns] w fun e w' => e = .returned (.bool true) ∧ Below w.heap.size w w' := by
  unfold G
  go_enter Yba.func15, Yba.ntmps15
  go_wp2_with fail
  refine (equal_same ns _).mono ?_
  rintro e w1 ⟨rfl, hb⟩
  have HB := hide hb
  clear hb
  go_wp2_with fail
  go_ret
  exact ⟨rfl, (((Below.refl _ _).alloc (Nat.le_refl _) _).alloc (by simp) _).trans (HB.out.mono (by simp; omega))⟩
end Go.Proofs.Ybulkdwhm
