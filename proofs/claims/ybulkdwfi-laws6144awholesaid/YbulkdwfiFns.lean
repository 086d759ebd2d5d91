import Derived.Test.YbulkdwfiRows
import Derived.Test.YbulkdwfiGen
import Derived.Deep.RegionHeld3
namespace Go.Proofs.Ybulkdwfi
open Go.RowKit

theorem Yba.info5 : (Yba.prog.info? 5).map (fun i => (i.zero, i.size, i.bytes)) = some (some (.int .u8 0), 1, 1) := by kernel_rfl
theorem Yba.info3 : (Yba.prog.info? 3).map (fun i => (i.zero, i.size, i.bytes)) = some (some (.int .i64 0), 1, 8) := by kernel_rfl

set_option maxHeartbeats 400000 in
/-- bytes.Equal of two slices that read alike. -/
theorem equal_true (a a' : Option Addr) (n c c' : Nat) (Z : Nat → Int) (w : World) (h : NumAt .u8 w a n Z) (h' : NumAt .u8 w a' n Z) (hn : a = none → n = 0) (hn' : a' = none → n = 0) :
    Calls Yba.prog 8 #[.slice a n c, .slice a' n c'] w fun e w' => e = .returned (.bool true) ∧ w' = w := by
  have h1 := run_string_of (P := Yba.prog) w 24 9 5 Yba.underlying24 Yba.underlying5 Yba.underlying9 a n c Z h hn
  have h2 := run_string_of (P := Yba.prog) w 24 9 5 Yba.underlying24 Yba.underlying5 Yba.underlying9 a' n c' Z h' hn'
  clear h h' hn hn'
  generalize strOfNums ((List.range n).map Z) = s at h1 h2
  go_enter Yba.func8, Yba.ntmps8
  go_wp2
  go_ret
  exact ⟨by simp, rfl⟩

set_option maxHeartbeats 400000 in
theorem bclone_nil (w : World) : Calls Yba.prog 5 #[.slice none 0 0] w fun e w' => e = .returned (.slice none 0 0) ∧ w' = w := by
  have hn := fun w a l c => Lib.run_eql_slice_nil (P := Yba.prog) w 24 5 a l c 0 0 Yba.underlying24
  go_enter Yba.func5, Yba.ntmps5
  go_wp2
  go_ret
  exact ⟨rfl, rfl⟩

set_option maxHeartbeats 400000 in
theorem bclone_some (x : Addr) (n c : Nat) (Z : Nat → Int) (w : World) (hb : n ≤ 1048576) (h : NumAt .u8 w (some x) n Z) :
    Calls Yba.prog 5 #[.slice (some x) n c] w fun e w' => ∃ a' c', e = .returned (.slice a' n c') ∧ (a' = none → n = 0) ∧ NumAt .u8 w' a' n Z ∧ Below w.heap.size w w' := by
  have hnl := fun w a l c => Lib.run_eql_slice_nil (P := Yba.prog) w 24 5 a l c 0 0 Yba.underlying24
  obtain ⟨i0, hi, hz0, hz1, hz2⟩ := info_parts Yba.info5
  have hown0 : (w.alloc (.cells #[] 5)).ownsRow w.heap.size 5 1 (.slice (some ⟨w.heap.size, 0, none⟩) 0 0) 0 [] :=
    ⟨rfl, .inr ⟨w.heap.size, 0, #[], rfl, Nat.le_refl _, heap_alloc_new w _, Nat.le_refl _, Nat.zero_le _, rfl, rfl⟩⟩
  have hnews := (h.below (w' := w.alloc (.cells #[] 5)) ((Below.refl _ w).alloc (Nat.le_refl _) _) (Nat.le_refl _)).news
  have HN := hide hnews
  clear h hnews
  go_enter Yba.func5, Yba.ntmps5
  go_wp2_with (at_builtin; refine wpList_append_own _ rfl (.tmp 5) (.tmp 6) 24 rfl w.heap.size 5 i0 (.int .u8 0) 1 1 Yba.underlying24 hi hz0 hz1 hz2 rfl (by omega) (.slice (some ⟨w.heap.size, 0, none⟩) 0 0) 0 [] rfl hown0 x n c (nums .u8 Z n) rfl (by rw [nums_length]; omega) HN.out (nums_one _ _ _) (by unfold maxLen; omega) (by omega) (by simp) ?_; intro v1 w1 hown hgrow _)
  simp only [Nat.zero_add, List.nil_append] at hown
  obtain ⟨a', c', hv, q1, _, _, _, q5⟩ := NumAt.of_owned hown
  have qb : Below w.heap.size w w1 := ((Below.refl _ w).alloc (Nat.le_refl _) _).grown hgrow (by simp) (fun k hk => by simp [Value.ownBlock] at hk; omega)
  clear hown hgrow hown0
  rw [hv]
  go_ret
  exact ⟨a', c', rfl, fun e => (q1 e).1, q5, qb⟩

theorem bclone_any (a : Option Addr) (n c : Nat) (Z : Nat → Int) (w : World) (hb : n ≤ 1048576) (hn : a = none → n = 0 ∧ c = 0) (h : NumAt .u8 w a n Z) :
    Calls Yba.prog 5 #[.slice a n c] w fun e w' => ∃ a' c', e = .returned (.slice a' n c') ∧ (a' = none → n = 0) ∧ NumAt .u8 w' a' n Z ∧ Below w.heap.size w w' := by
  cases a with
  | none =>
    obtain ⟨rfl, rfl⟩ := hn rfl
    exact (bclone_nil w).mono fun e w' ⟨h1, h2⟩ => ⟨none, 0, h1, fun _ => rfl, fun i hi => absurd hi (Nat.not_lt_zero _), h2 ▸ Below.refl _ _⟩
  | some x => exact bclone_some x n c Z w hb h

set_option maxHeartbeats 400000 in
/-- slices.Clone[[]int] of a slice that is not nil. -/
theorem iclone_some (x : Addr) (n c : Nat) (Z : Nat → Int) (w : World) (hb : n ≤ 1048576) (h : NumAt .i64 w (some x) n Z) :
    Calls Yba.prog 6 #[.slice (some x) n c] w fun e w' => ∃ a' c', e = .returned (.slice a' n c') ∧ NumAt .i64 w' a' n Z ∧ Below w.heap.size w w' := by
  have hnl := fun w a l c => Lib.run_eql_slice_nil (P := Yba.prog) w 25 3 a l c 0 0 Yba.underlying25
  obtain ⟨i0, hi, hz0, hz1, hz2⟩ := info_parts Yba.info3
  have hown0 : (w.alloc (.cells #[] 3)).ownsRow w.heap.size 3 1 (.slice (some ⟨w.heap.size, 0, none⟩) 0 0) 0 [] :=
    ⟨rfl, .inr ⟨w.heap.size, 0, #[], rfl, Nat.le_refl _, heap_alloc_new w _, Nat.le_refl _, Nat.zero_le _, rfl, rfl⟩⟩
  have hnews := (h.below (w' := w.alloc (.cells #[] 3)) ((Below.refl _ w).alloc (Nat.le_refl _) _) (Nat.le_refl _)).news
  have HN := hide hnews
  clear h hnews
  go_enter Yba.func6, Yba.ntmps6
  go_wp2_with (at_builtin; refine wpList_append_own _ rfl (.tmp 5) (.tmp 6) 25 rfl w.heap.size 3 i0 (.int .i64 0) 1 8 Yba.underlying25 hi hz0 hz1 hz2 rfl (by omega) (.slice (some ⟨w.heap.size, 0, none⟩) 0 0) 0 [] rfl hown0 x n c (nums .i64 Z n) rfl (by rw [nums_length]; omega) HN.out (nums_one _ _ _) (by unfold maxLen; omega) (by omega) (by simp) ?_; intro v1 w1 hown hgrow _)
  simp only [Nat.zero_add, List.nil_append] at hown
  obtain ⟨a', c', hv, _, _, _, _, q5⟩ := NumAt.of_owned hown
  have qb : Below w.heap.size w w1 := ((Below.refl _ w).alloc (Nat.le_refl _) _).grown hgrow (by simp) (fun k hk => by simp [Value.ownBlock] at hk; omega)
  clear hown hgrow hown0
  rw [hv]
  go_ret
  exact ⟨a', c', rfl, q5, qb⟩

set_option maxHeartbeats 400000 in
/-- slices.Equal[[]int] of two slices that read alike. -/
theorem iequal_true (a a' : Option Addr) (n c c' : Nat) (Z : Nat → Int) (w : World) (hb : n ≤ 1048576) (h : NumAt .i64 w a n Z) (h' : NumAt .i64 w a' n Z) :
    Calls Yba.prog 9 #[.slice a n c, .slice a' n c'] w fun e w' => e = .returned (.bool true) ∧ ∃ m, w' = w.drewN m := by
  go_enter Yba.func9, Yba.ntmps9
  go_wp2
  go_loopw [13] (fun i wr => ∃ k m : Nat, k ≤ n ∧ i = .int .i64 k ∧ wr = w.drewN m) (fun i _ => n - (intOf i).toNat)
  case atStart => exact ⟨0, 0, Nat.zero_le _, rfl, rfl⟩
  case round =>
    obtain ⟨k, m, hk, rfl, rfl⟩ := hrel
    by_cases hlt : k < n
    · obtain ⟨b, off, rfl, h1⟩ := h k hlt
      obtain ⟨b', off', rfl, h2⟩ := h' k hlt
      have hI : (k : Int) < (n : Int) := by omega
      clear h h'
      go_wp2
      go_quiet (fail)
      go_wp2
      go_roundw
      case rel => exact ⟨k + 1, m + nq, by omega, by go_num, by simp⟩
      case measure => simp [intOf]; omega
    · go_wp2
      go_ret
      exact ⟨rfl, m, rfl⟩
end Go.Proofs.Ybulkdwfi
