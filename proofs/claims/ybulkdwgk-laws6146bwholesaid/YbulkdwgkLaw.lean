import Derived.Test.YbulkdwgkFns
namespace Go.Proofs.Ybulkdwgk
open Go.RowKit
set_option linter.unusedVariables false
set_option linter.unusedSimpArgs false

set_option maxHeartbeats 2000000 in
theorem law_walk (a : Option Addr) (n c R : Nat) (Z : Nat → Int) (w : World) (hn0 : a = none → n = 0 ∧ c = 0) (hm : n ≤ maxLen) (hz : NumAt .u8 w a n Z) (hr : ∀ i, i < n → 0 ≤ Z i ∧ Z i ≤ 255) (hR : R < 18446744073709551616) :
    Calls Yba.prog 3 #[.slice a n c, .int .u64 R] w fun e w' => e = .returned (.bool true) ∧ Below w.heap.size w w' := by
  have HN := hide hn0
  have HZ := hide hz
  have HR := hide hr
  have hnl := fun w a l c => Lib.run_eql_slice_nil (P := Yba.prog) w 22 5 a l c 0 0 Yba.underlying22
  clear hn0 hz hr
  by_cases hbig : 1048576 < n
  · have hI : (1048576 : Int) < (n : Int) := by omega
    unfold maxLen at hm
    go_enter Yba.func3, Yba.ntmps3
    go_wp2_with fail
    go_ret
    exact ⟨rfl, Below.refl _ _⟩
  · have hI : ¬ (1048576 : Int) < (n : Int) := by omega
    clear hm
    obtain ⟨pos, hp, hpn⟩ : ∃ pos : Nat, (R : Int) % ((n : Int) + 2) = (pos : Int) ∧ pos < n + 2 := ⟨R % (n + 2), by simp [Int.natCast_emod], Nat.mod_lt _ (by omega)⟩
    go_enter Yba.func3, Yba.ntmps3
    go_wp2_with fail
    refine (bclone_any a n c Z _ (by omega) HN.out HZ.out).mono ?_
    rintro e w1 ⟨a1, c1, rfl, hs, hn1, hz1, hb1⟩
    have HS := hide hs
    have HN1 := hide hn1
    have HZ1 := hide hz1
    have HB1 := hide hb1
    have HP := hide (show Parser (w1.alloc (.cells #[.slice a n c, .int .i64 pos, .map none, .slice none 0 0, .slice none 0 0] 30)) w1.heap.size a n c pos from ⟨by simp, by simp, by simp, by simp, by simp, by simp⟩)
    clear hs hn1 hz1 hb1
    go_wp2_with fail
    refine (digits_spec w1 w1.heap.size a n c pos Z _ HP.out (HZ.out.below HB1.out (Nat.le_refl _)) (Nat.le_refl _) ((Below.refl _ _).alloc (Nat.le_refl _) _) (by omega) (by omega)).mono ?_
    rintro e w2 ⟨rfl, hP2, hb2⟩
    have HP2 := hide hP2
    have HB2 := hide hb2
    have hdl := dcount_le Z (n - pos) pos
    generalize hd : dcount Z (n - pos) pos = D at *
    clear HP hP2 hb2
    go_wp2_with fail
    refine (count_spec a1 n c1 pos Z _ (HZ1.out.below HB2.out (Nat.le_refl _)) HR.out (by omega) (by omega)).mono ?_
    rintro e w3 ⟨rfl, rfl⟩
    rw [hd]
    obtain ⟨p0, p1, p2, p3, p4, f1⟩ := HP2.out
    go_wp2_with fail
    refine (equal_true a a1 n c c1 Z _ ((HZ.out.below HB1.out (Nat.le_refl _)).below HB2.out (Nat.le_refl _)) (HZ1.out.below HB2.out (Nat.le_refl _)) (fun e => (HN.out e).1) HN1.out).mono ?_
    rintro e w4 ⟨rfl, rfl⟩
    have hs := HS.out
    have hm0 := fun w r => run_neq_map_nil (P := Yba.prog) w 26 _ _ r Yba.underlying26
    have hs1 := fun w a n c => run_neq_slice_nil_any (P := Yba.prog) w 27 _ a n c 0 0 Yba.underlying27
    have hs2 := fun w a n c => run_neq_slice_nil_any (P := Yba.prog) w 28 _ a n c 0 0 Yba.underlying28
    go_wp2_with fail
    go_ret
    exact ⟨rfl, HB1.out.trans (HB2.out.mono HB1.out.size)⟩
end Go.Proofs.Ybulkdwgk
