import Derived.Test.YbulkdwhmState
import Derived.Deep.RegionHeld3
import Derived.Deep.LoopGhost
import Derived.Deep.DrawnRows
import Derived.Deep.QuietTactic
import Derived.BigQuiet
import Derived.Deep.DeepCutAuto
namespace Go.Proofs.Ybulkdwhm
open Go.RowKit
set_option linter.unusedVariables false
set_option linter.unusedSimpArgs false

set_option maxHeartbeats 4000000 in
set_option maxRecDepth 100000 in
theorem forget_spec (gb n : Nat) (st : Int) (mv : Option Nat) (L : List (ByteArray × Value)) (qv : Value) (K : Nat → ByteArray) (X : Nat → Int) (at_ : Int) (w : World) (hst : St w gb st mv L qv n 0 K X) (hn : n ≤ 65536) :
    Calls Yba.prog 40 #[.pointer (some ⟨gb, 2, none⟩), T at_] w fun e w' => e = .returned (.tuple #[]) ∧ (∃ qv', St w' gb st mv (dels K L (old X at_ n 0)) qv' n (old X at_ n 0) K X) ∧ Keeps w w' ∧ Below gb w w' := by
  have HS := hide hst
  have hgl := hst.1.lt
  clear hst
  unfold T
  have HT0 := hide (TAt.made w at_)
  have HKW := hide (Keeps.of_below (w' := w.alloc (.cells #[.int .u64 (at_ % 1000000000), .int .i64 (at_ / 1000000000), .pointer none] 56)) ((Below.refl _ w).alloc (Nat.le_refl _) _) (Nat.le_refl _))
  go_enter Yba.func40, Yba.ntmps40
  go_wp2_with fail
  go_loopg [] n (fun g wr => ∃ (j : Nat) (qv' : Value), g = n - j ∧ j ≤ n ∧ j + old X at_ (n - j) j = old X at_ n 0 ∧ St wr gb st mv (dels K L j) qv' n j K X ∧ Keeps (w.alloc (.cells #[.int .u64 (at_ % 1000000000), .int .i64 (at_ / 1000000000), .pointer none] 56)) wr ∧ Below gb w wr)
  case atStart => exact ⟨0, qv, rfl, Nat.zero_le _, by simp, HS.out.below ((Below.refl _ _).alloc (Nat.le_refl _) _) (Nat.le_refl _), Keeps.refl _, (Below.refl _ _).alloc (by omega) _⟩
  case round =>
    clear HS
    obtain ⟨j, qv', rfl, hjn, hold, hst, hke, hbel⟩ := hrel
    have hta : TAt wr w.heap.size at_ := hke _ _ _ _ HT0.out (by decide) (by decide)
    have HK := hide hke
    clear hke HT0
    have HO := hide hold
    have HS := hide hst
    have HT := hide hta
    have HB := hide hbel
    obtain ⟨t0, t1, t2⟩ := hta.cells
    have tl := World.rowIs.lt hta
    clear hold hta hbel
    obtain ⟨hg, hm, hq⟩ := hst
    obtain ⟨_, _, g2, g3⟩ := hg.cells
    have f2 := hg.frozen 2
    have f3 := hg.frozen 3
    have gl := hg.lt
    clear hg hm
    rcases hq with ⟨rfl, rfl, rfl⟩ | ⟨qb, o, h0, _, ho, rfl, hgq, hrow⟩
    · go_wp2_with fail
      go_quiet (fail)
      go_wp2_with fail
      go_end0
      exact ⟨rfl, ⟨_, HS.out⟩, HKW.out.trans HK.out, HB.out.trans (below_drewN _ _ nq)⟩
    · by_cases hlt : j < n
      · obtain rfl := ho hlt
        obtain ⟨k0, k1, k2, k3⟩ := hrow.key (Nat.le_refl j) hlt (Nat.le_refl n)
        have z0 := hrow.frozen (j * 4)
        have z1 := hrow.frozen (j * 4 + 1)
        have z2 := hrow.frozen (j * 4 + 2)
        have z3 := hrow.frozen (j * 4 + 3)
        have ql := hrow.lt
        have HR := hide hrow
        clear hrow ho
        have hI : (0 : Int) < ((n - j : Nat) : Int) := by omega
        have hI' : (0 : Int) < (n : Int) - (j : Int) := by omega
        have hd : decide ((0 : Int) < ((n - j : Nat) : Int)) = true := by simp; omega
        have hd2 : decide (0 < n - j) = true := by simp; omega
        have hN : 0 < n - j := by omega
        go_upto_region 1 with fail
        go_region_held3 (fun w' => w'.cell? ⟨gb, 3, none⟩ = some (.slice (some ⟨qb, j * 4, none⟩) (n - j) (n - j)) ∧ w'.cell? ⟨qb, j * 4 + 1, none⟩ = some (.int .u64 (X j % 1000000000)) ∧ w'.cell? ⟨qb, j * 4 + 2, none⟩ = some (.int .i64 (X j / 1000000000)) ∧ w'.cell? ⟨qb, j * 4 + 3, none⟩ = some (.pointer none) ∧ w'.cell? ⟨w.heap.size, 0, none⟩ = some (.int .u64 (at_ % 1000000000)) ∧ w'.cell? ⟨w.heap.size, 1, none⟩ = some (.int .i64 (at_ / 1000000000)) ∧ w'.cell? ⟨w.heap.size, 2, none⟩ = some (.pointer none))
          (first | exact ⟨g3, k1, k2, k3, t0, t1, t2⟩ | exact s7)
          ((go_at_call 45; refine (after_spec (X j) at_ _).mono ?_; rintro e w1 ⟨rfl, hb1⟩; have s7 : w1.cell? ⟨gb, 3, none⟩ = some (.slice (some ⟨qb, j * 4, none⟩) (n - j) (n - j)) ∧ w1.cell? ⟨qb, j * 4 + 1, none⟩ = some (.int .u64 (X j % 1000000000)) ∧ w1.cell? ⟨qb, j * 4 + 2, none⟩ = some (.int .i64 (X j / 1000000000)) ∧ w1.cell? ⟨qb, j * 4 + 3, none⟩ = some (.pointer none) ∧ w1.cell? ⟨w.heap.size, 0, none⟩ = some (.int .u64 (at_ % 1000000000)) ∧ w1.cell? ⟨w.heap.size, 1, none⟩ = some (.int .i64 (at_ / 1000000000)) ∧ w1.cell? ⟨w.heap.size, 2, none⟩ = some (.pointer none) := ⟨cell_keep hb1 g3 (Nat.le_refl _), cell_keep hb1 k1 (Nat.le_refl _), cell_keep hb1 k2 (Nat.le_refl _), cell_keep hb1 k3 (Nat.le_refl _), cell_keep hb1 t0 (Nat.le_refl _), cell_keep hb1 t1 (Nat.le_refl _), cell_keep hb1 t2 (Nat.le_refl _)⟩))
        have hb1' : Below wr.heap.size wr w1 := ⟨hb1.os, hb1.tape, hb1.output, hb1.size, hb1.block⟩
        have HB1 := hide (HB.out.trans (hb1'.mono (Nat.le_of_lt gl)))
        have HS1 := hide (HS.out.below hb1' (Nat.le_refl _))
        have HK1 := hide (HK.out.trans (Keeps.of_below hb1' (Nat.le_refl _)))
        have HR1 := hide (HR.out.of_block (hb1'.block _ ql))
        by_cases hexp : X j ≤ at_
        · have hx1 : decide (at_ < X j) = false := by simp; omega
          have HOS := hide (old_step hlt hexp)
          obtain ⟨w2, hrun, hm2, hblk, hb2⟩ := del_step (w := w1.drew) (gb := gb) (mv := mv) (L := dels K L j) HS1.out.2.1 (K j)
          have bq : w2.heap[qb]? = w1.heap[qb]? := hblk qb (HS1.out.2.1.ne HR1.out.choose_spec.1)
          have bg : w2.heap[gb]? = w1.heap[gb]? := hblk gb (HS1.out.2.1.ne HS1.out.1)
          have HG2 := hide (HS1.out.1.of_block bg)
          have HR2 := hide (HR1.out.of_block bq)
          have HK2 := hide (HK1.out.trans (Keeps.of_blocks HS1.out.2.1 hblk))
          have HM2 := hide hm2
          have HB2 := hide (HB1.out.trans (show Below gb w1 w2 from ⟨hb2.os, hb2.tape, hb2.output, hb2.size, hb2.block⟩))
          have e0 := cell_keep hb1' k0 (Nat.le_refl _)
          have e2 := cell_keep hb1' g2 (Nat.le_refl _)
          obtain ⟨e3, e4, e5, e6, e7, e8, e9⟩ := s7
          obtain ⟨_, _, c2, c3⟩ := HG2.out.cells
          have y3 := HG2.out.frozen 3
          obtain ⟨c4, c5, c6, c7⟩ := HR2.out.key (Nat.le_refl j) hlt (Nat.le_refl n)
          have x0 := HR2.out.frozen (j * 4)
          have x1 := HR2.out.frozen (j * 4 + 1)
          have x2 := HR2.out.frozen (j * 4 + 2)
          have x3 := HR2.out.frozen (j * 4 + 3)
          clear hb1 hb1' HB HS HT HR HR1 HK HK1 HS1 HB1 k0 k1 k2 k3 z0 z1 z2 z3 g2 g3 f2 f3 t0 t1 t2 hm2 hblk hb2 bq bg
          rw [hx1, Bool.not_false]
          clear hx1 hexp
          go_wp2_with fail
          go_region
          all_goals go_wp2_with fail
          case inl =>
            rename_i hone
            have e1 : n - (j + 1) = 0 := by omega
            have hcl := forget_close (o := j * 4) HG2.out HM2.out HR2.out hgq HK2.out HB2.out hlt (fun h => by omega)
            rw [e1] at hcl
            have HC := hide hcl
            clear hcl
            go_roundg (n - (j + 1))
            case measure => omega
            case rel => exact ⟨j + 1, _, by omega, by omega, by have := HO.out; have := HOS.out; omega, HC.out.1, HC.out.2.1, HC.out.2.2⟩
          case inr =>
            rename_i hone
            have hcl := forget_close (o := (j + 1) * 4) HG2.out HM2.out HR2.out hgq HK2.out HB2.out hlt (fun h => rfl)
            rw [show (j + 1) * 4 = j * 4 + 4 from by omega, show n - (j + 1) = n - j - 1 from by omega] at hcl
            have HC := hide hcl
            clear hcl
            go_roundg (n - (j + 1))
            case measure => omega
            case rel => exact ⟨j + 1, _, by omega, by omega, by have := HO.out; have := HOS.out; omega, HC.out.1, HC.out.2.1, HC.out.2.2⟩
        · have hx1 : decide (at_ < X j) = true := by simp; omega
          have HOS := hide (old_stop hlt hexp)
          rw [hx1, Bool.not_true]
          go_wp2_with fail
          go_end0
          have hO : old X at_ n 0 = j := by have := HO.out; have := HOS.out; omega
          exact ⟨rfl, ⟨_, by rw [hO]; exact HS1.out⟩, HKW.out.trans HK1.out, HB1.out⟩
      · have hd : decide ((0 : Int) < ((n - j : Nat) : Int)) = false := by simp; omega
        have hd2 : decide (0 < n - j) = false := by simp; omega
        have hO : old X at_ n 0 = j := by have := HO.out; have := old_end (X := X) (at_ := at_) hlt; omega
        have HO2 := hide hO
        clear hO
        go_wp2_with fail
        go_quiet (fail)
        go_wp2_with fail
        go_end0
        exact ⟨rfl, ⟨_, by rw [HO2.out]; exact HS.out⟩, HKW.out.trans HK.out, HB.out.trans (below_drewN _ _ nq)⟩
end Go.Proofs.Ybulkdwhm
