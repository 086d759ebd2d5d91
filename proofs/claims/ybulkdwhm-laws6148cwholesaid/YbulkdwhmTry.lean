import Derived.Test.YbulkdwhmLocks
import Derived.WalkKit
import Derived.WalkSpells
import Derived.Conc.MuLone
namespace Go.Proofs.Ybulkdwhm
open Go.RowKit

theorem race_disable (w : World) : (callFunc 33 #[]).run Yba.prog w = .ok (.value (.tuple #[])) w := run_call_mark0 Yba.func33 (by kernel_rfl) (by kernel_rfl) (by kernel_rfl) .disable (by kernel_rfl) w
theorem race_enable (w : World) : (callFunc 34 #[]).run Yba.prog w = .ok (.value (.tuple #[])) w := run_call_mark0 Yba.func34 (by kernel_rfl) (by kernel_rfl) (by kernel_rfl) .enable (by kernel_rfl) w
theorem race_acquire (a : Addr) (w : World) : (callFunc 36 #[.pointer (some a)]).run Yba.prog w = .ok (.value (.tuple #[])) w := run_call_marked Yba.func36 (by kernel_rfl) (by kernel_rfl) (by kernel_rfl) .acquire (by kernel_rfl) a w

set_option maxRecDepth 100000 in
set_option maxHeartbeats 400000 in
/-- (*sync.Mutex).TryLock, the lock free: it is taken. -/
theorem trylock_free (b off : Nat) (w : World) (hc : w.cell? ⟨b, off, none⟩ = some (.int .i32 0)) (hz : w.frozen? ⟨b, off, none⟩ = false) :
    Calls Yba.prog 10 #[.pointer (some ⟨b, off, none⟩)] w fun e w' => e = .returned (.bool true) ∧ w' = w.setCell ⟨b, off, none⟩ (.int .i32 1) := by
  have hd := race_disable
  have he := race_enable
  have ha := race_acquire
  have hcas := run_call_cas_hit (P := Yba.prog) Yba.func35 (by kernel_rfl) (by kernel_rfl) (by kernel_rfl) .i32 (by kernel_rfl) (y := 1) hc hz
  have h0' : (w.setCell ⟨b, off, none⟩ (.int .i32 1)).cell? ⟨b, off, none⟩ = some (.int .i32 1) := by simp [go_sem, hc]
  have hcv := run_convert_to_unsafe (P := Yba.prog) (src := 114) (dst := 118) Yba.underlying114 Yba.underlying118 (by kernel_rfl) h0'
  go_enter Yba.func10, Yba.ntmps10
  go_wp2_with fail
  go_enter Yba.func22, Yba.ntmps22
  go_wp2_with fail
  go_ret
  exact ⟨rfl, rfl⟩
end Go.Proofs.Ybulkdwhm
