import Derived.Test.YbulkdweuRows
import Derived.WalkKit
import Derived.WalkSpells
import Derived.WalkLawsBesides
import Derived.Deep.OwnRows
import Derived.Deep.QuietTactic
import Derived.BigQuiet
namespace Go.Proofs.Ybulkdweu
open Go.RowKit

theorem Yba.info5 : (Yba.prog.info? 5).map (fun i => (i.zero, i.size, i.bytes)) = some (some (.int .u8 0), 1, 1) := by kernel_rfl

/-- WHAT A BYTE SLICE THAT IS READ HOLDS: 'Z i' at place i, for the first n places; nil has none. -/
def ByteRow (w : World) (a : Option Addr) (n : Nat) (Z : Nat → Int) : Prop :=
  (a = none → n = 0) ∧ ∀ i, i < n → ∃ b off, a = some ⟨b, off, none⟩ ∧ w.cell? ⟨b, off + i, none⟩ = some (.int .u8 (Z i))

set_option maxHeartbeats 400000 in
theorem clone_nil (w : World) :
    Calls Yba.prog 5 #[.slice none 0 0] w fun e w' => e = .returned (.slice none 0 0) ∧ w' = w := by
  have hn := fun w a l c => Lib.run_eql_slice_nil (P := Yba.prog) w 24 5 a l c 0 0 Yba.underlying24
  go_enter Yba.func5, Yba.ntmps5
  go_wp2
  go_ret
  exact ⟨rfl, rfl⟩

set_option maxHeartbeats 400000 in
theorem clone_some (x : Addr) (n c : Nat) (Z : Nat → Int) (w : World) (hb : n ≤ 1048576) (hr : ∀ i, i < n → ∃ b off, x = ⟨b, off, none⟩ ∧ b < w.heap.size ∧ w.cell? ⟨b, off + i, none⟩ = some (.int .u8 (Z i))) :
    Calls Yba.prog 5 #[.slice (some x) n c] w fun e w' => e = .returned (.slice (some ⟨w.heap.size, 0, none⟩) n n) ∧ w'.rowIs w.heap.size 5 n (fun i => .int .u8 (Z i)) ∧ Below w.heap.size w w' ∧ w'.heap.size = w.heap.size + 1 := by
  have hn := fun w a l c => Lib.run_eql_slice_nil (P := Yba.prog) w 24 5 a l c 0 0 Yba.underlying24
  have hmk := run_make_row' (P := Yba.prog) 24 5 (.int .u8 0) 1 Yba.underlying24 Yba.info5 rfl .i64 .i64 n (by omega) (by omega)
  go_enter Yba.func5, Yba.ntmps5
  go_wp2
  go_loopw [4] (fun i wr => ∃ k : Nat, k ≤ n ∧ i = .int .i64 k ∧ wr.rowIs w.heap.size 5 n (fun j => if j < k then .int .u8 (Z j) else .int .u8 0) ∧ Below w.heap.size w wr ∧ wr.heap.size = w.heap.size + 1)
    (fun i _ => n - (intOf i).toNat)
  case atStart => exact ⟨0, Nat.zero_le _, rfl, (World.rowIs_made w _ n 5).congr (by intro i hi; simp), (Below.refl _ _).alloc (Nat.le_refl _) _, by simp⟩
  case round =>
    obtain ⟨k, hk, rfl, hrow, hbel, hsz⟩ := hrel
    by_cases hlt : k < n
    · obtain ⟨b, off, rfl, hbw, hc⟩ := hr k hlt
      have hc' : wr.cell? ⟨b, off + k, none⟩ = some (.int .u8 (Z k)) := (hbel.cell (by exact hbw)).trans hc
      have hcw := hrow.cell hlt
      have hfz := hrow.frozen k
      have R := hrow.set k (.int .u8 (Z k))
      clear hr hc
      go_wp2
      go_roundw
      case rel => exact ⟨k + 1, by omega, by go_num, R.congr (by intro j hj; by_cases e : j = k; (subst e; simp); (simp only [if_neg e]; by_cases h2 : j < k; (rw [if_pos h2, if_pos (by omega)]); (rw [if_neg h2, if_neg (by omega)]))), hbel.setCell (by exact Nat.le_refl _) _, by simpa using hsz⟩
      case measure => simp [intOf]; omega
    · go_wp2
      go_ret
      exact ⟨rfl, hrow.congr (by intro j hj; rw [if_pos (by omega)]), hbel, hsz⟩

set_option maxHeartbeats 400000 in
/-- The two slices read alike: true. -/
theorem beq_true (a a' : Option Addr) (n c c' : Nat) (Z : Nat → Int) (w : World) (hnil : a'.isNone = a.isNone) (hb : n ≤ 1048576)
    (hr : ∀ i, i < n → ∃ b off b' off', a = some ⟨b, off, none⟩ ∧ a' = some ⟨b', off', none⟩ ∧ w.cell? ⟨b, off + i, none⟩ = some (.int .u8 (Z i)) ∧ w.cell? ⟨b', off' + i, none⟩ = some (.int .u8 (Z i))) :
    Calls Yba.prog 7 #[.slice a n c, .slice a' n c'] w fun e w' => e = .returned (.bool true) ∧ ∃ m, w' = w.drewN m := by
  have hn := fun w a l c => Lib.run_eql_slice_nil (P := Yba.prog) w 24 5 a l c 0 0 Yba.underlying24
  go_enter Yba.func7, Yba.ntmps7
  go_wp2
  go_loopw [5] (fun i wr => ∃ k m : Nat, k ≤ n ∧ i = .int .i64 k ∧ wr = w.drewN m) (fun i _ => n - (intOf i).toNat)
  case atStart => exact ⟨0, 0, Nat.zero_le _, rfl, rfl⟩
  case round =>
    obtain ⟨k, m, hk, rfl, rfl⟩ := hrel
    by_cases hlt : k < n
    · obtain ⟨b, off, b', off', rfl, rfl, h1, h2⟩ := hr k hlt
      have hI : (k : Int) < (n : Int) := by omega
      clear hr
      go_wp2
      go_quiet (fail)
      go_wp2
      go_roundw
      case rel => exact ⟨k + 1, m + nq, by omega, by go_num, by simp⟩
      case measure => simp [intOf]; omega
    · go_wp2
      go_ret
      exact ⟨rfl, m, rfl⟩
end Go.Proofs.Ybulkdweu
