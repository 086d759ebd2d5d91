import Derived.Test.YbulkdwgkRows
import Derived.Test.YbulkdwgkGen
import Derived.Deep.RegionHeld3
import Derived.Deep.LoopGhost
import Derived.Deep.DrawnRows
namespace Go.Proofs.Ybulkdwgk
open Go.RowKit
set_option linter.unusedVariables false
set_option linter.unusedSimpArgs false

theorem Yba.info5 : (Yba.prog.info? 5).map (fun i => (i.zero, i.size, i.bytes)) = some (some (.int .u8 0), 1, 1) := by kernel_rfl

set_option maxHeartbeats 400000 in
/-- bytes.Equal of two slices that read alike. -/
theorem equal_true (a a' : Option Addr) (n c c' : Nat) (Z : Nat → Int) (w : World) (h : NumAt .u8 w a n Z) (h' : NumAt .u8 w a' n Z) (hn : a = none → n = 0) (hn' : a' = none → n = 0) :
    Calls Yba.prog 7 #[.slice a n c, .slice a' n c'] w fun e w' => e = .returned (.bool true) ∧ w' = w := by
  have h1 := run_string_of (P := Yba.prog) w 22 9 5 Yba.underlying22 Yba.underlying5 Yba.underlying9 a n c Z h hn
  have h2 := run_string_of (P := Yba.prog) w 22 9 5 Yba.underlying22 Yba.underlying5 Yba.underlying9 a' n c' Z h' hn'
  clear h h' hn hn'
  generalize strOfNums ((List.range n).map Z) = s at h1 h2
  go_enter Yba.func7, Yba.ntmps7
  go_wp2
  go_ret
  exact ⟨by simp, rfl⟩

set_option maxHeartbeats 400000 in
theorem bclone_nil (w : World) : Calls Yba.prog 4 #[.slice none 0 0] w fun e w' => e = .returned (.slice none 0 0) ∧ w' = w := by
  have hn := fun w a l c => Lib.run_eql_slice_nil (P := Yba.prog) w 22 5 a l c 0 0 Yba.underlying22
  go_enter Yba.func4, Yba.ntmps4
  go_wp2
  go_ret
  exact ⟨rfl, rfl⟩

theorem run_append_empty (W : World) (y x : Addr) (c : Nat) : (Builtin.append_ #[22, 22] 22 #[.slice (some y) 0 0, .slice (some x) 0 c]).run Yba.prog W = .ok (.slice (some y) 0 0) W := by
  obtain ⟨i, hi, _⟩ := info_parts Yba.info5
  simp [Builtin.append_, run_underlying Yba.underlying22, sizeOf, typeInfo, hi, Builtin.lenOf, Builtin.firstCells, loadCells, loadCellsFrom, storeCells]

set_option maxHeartbeats 400000 in
theorem bclone_empty (x : Addr) (c : Nat) (w : World) : Calls Yba.prog 4 #[.slice (some x) 0 c] w fun e w' => ∃ y, e = .returned (.slice (some y) 0 0) ∧ Below w.heap.size w w' := by
  have hn := fun w a l c => Lib.run_eql_slice_nil (P := Yba.prog) w 22 5 a l c 0 0 Yba.underlying22
  have ha := fun w b0 c => run_append_empty w b0 x c
  go_enter Yba.func4, Yba.ntmps4
  go_wp2
  go_ret
  exact ⟨_, rfl, (Below.refl _ _).alloc (Nat.le_refl _) _⟩

set_option maxHeartbeats 400000 in
theorem bclone_some (x : Addr) (n c : Nat) (Z : Nat → Int) (w : World) (hb : n ≤ 1048576) (h : NumAt .u8 w (some x) n Z) :
    Calls Yba.prog 4 #[.slice (some x) n c] w fun e w' => ∃ a' c', e = .returned (.slice a' n c') ∧ (a' = none → n = 0) ∧ NumAt .u8 w' a' n Z ∧ Below w.heap.size w w' := by
  have hnl := fun w a l c => Lib.run_eql_slice_nil (P := Yba.prog) w 22 5 a l c 0 0 Yba.underlying22
  obtain ⟨i0, hi, hz0, hz1, hz2⟩ := info_parts Yba.info5
  have hown0 : (w.alloc (.cells #[] 5)).ownsRow w.heap.size 5 1 (.slice (some ⟨w.heap.size, 0, none⟩) 0 0) 0 [] :=
    ⟨rfl, .inr ⟨w.heap.size, 0, #[], rfl, Nat.le_refl _, heap_alloc_new w _, Nat.le_refl _, Nat.zero_le _, rfl, rfl⟩⟩
  have hnews := (h.below (w' := w.alloc (.cells #[] 5)) ((Below.refl _ w).alloc (Nat.le_refl _) _) (Nat.le_refl _)).news
  have HN := hide hnews
  clear h hnews
  go_enter Yba.func4, Yba.ntmps4
  go_wp2_with (at_builtin; refine wpList_append_own _ rfl (.tmp 5) (.tmp 6) 22 rfl w.heap.size 5 i0 (.int .u8 0) 1 1 Yba.underlying22 hi hz0 hz1 hz2 rfl (by omega) (.slice (some ⟨w.heap.size, 0, none⟩) 0 0) 0 [] rfl hown0 x n c (nums .u8 Z n) rfl (by rw [nums_length]; omega) HN.out (nums_one _ _ _) (by unfold maxLen; omega) (by omega) (by simp) ?_; intro v1 w1 hown hgrow _)
  simp only [Nat.zero_add, List.nil_append] at hown
  obtain ⟨a', c', hv, q1, _, _, _, q5⟩ := NumAt.of_owned hown
  have qb : Below w.heap.size w w1 := ((Below.refl _ w).alloc (Nat.le_refl _) _).grown hgrow (by simp) (fun k hk => by simp [Value.ownBlock] at hk; omega)
  clear hown hgrow hown0
  rw [hv]
  go_ret
  exact ⟨a', c', rfl, fun e => (q1 e).1, q5, qb⟩

theorem bclone_any (a : Option Addr) (n c : Nat) (Z : Nat → Int) (w : World) (hb : n ≤ 1048576) (hn : a = none → n = 0 ∧ c = 0) (h : NumAt .u8 w a n Z) :
    Calls Yba.prog 4 #[.slice a n c] w fun e w' => ∃ a' c', e = .returned (.slice a' n c') ∧ (a'.isNone = a.isNone) ∧ (a' = none → n = 0) ∧ NumAt .u8 w' a' n Z ∧ Below w.heap.size w w' := by
  cases a with
  | none =>
    obtain ⟨rfl, rfl⟩ := hn rfl
    exact (bclone_nil w).mono fun e w' ⟨h1, h2⟩ => ⟨none, 0, h1, rfl, fun _ => rfl, fun i hi => absurd hi (Nat.not_lt_zero _), h2 ▸ Below.refl _ _⟩
  | some x =>
    by_cases h0 : n = 0
    · subst h0
      exact (bclone_empty x c w).mono fun e w' ⟨y, h1, h2⟩ => ⟨some y, 0, h1, rfl, fun _ => rfl, fun i hi => absurd hi (Nat.not_lt_zero _), h2⟩
    · refine (bclone_some x n c Z w hb h).mono fun e w' ⟨a', c', h1, h2, h3, h4⟩ => ⟨a', c', h1, ?_, h2, h3, h4⟩
      cases a' with
      | none => exact absurd (h2 rfl) h0
      | some y => rfl

/-- The digits from p on, at most m of them. -/
def dcount (Z : Nat → Int) : Nat → Nat → Nat
  | 0, _ => 0
  | m + 1, p => if 48 ≤ Z p ∧ Z p ≤ 57 then dcount Z m (p + 1) + 1 else 0

theorem dcount_le (Z : Nat → Int) : ∀ m p, dcount Z m p ≤ m
  | 0, _ => Nat.le_refl _
  | m + 1, p => by
    unfold dcount
    have := dcount_le Z m (p + 1)
    split <;> omega

theorem dcount_step {Z : Nat → Int} {n p : Nat} (h : p < n) (hd : 48 ≤ Z p ∧ Z p ≤ 57) : dcount Z (n - p) p = dcount Z (n - (p + 1)) (p + 1) + 1 := by
  obtain ⟨m, hm⟩ : ∃ m, n - p = m + 1 := ⟨n - p - 1, by omega⟩
  rw [hm, show n - (p + 1) = m from by omega, dcount, if_pos hd]
theorem dcount_stop {Z : Nat → Int} {n p : Nat} (h : p < n) (hd : ¬ (48 ≤ Z p ∧ Z p ≤ 57)) : dcount Z (n - p) p = 0 := by
  obtain ⟨m, hm⟩ : ∃ m, n - p = m + 1 := ⟨n - p - 1, by omega⟩
  rw [hm, dcount, if_neg hd]
theorem dcount_end {Z : Nat → Int} {n p : Nat} (h : ¬ p < n) : dcount Z (n - p) p = 0 := by
  rw [show n - p = 0 from by omega, dcount]

/-- The parser behind pb. -/
def Parser (w : World) (pb : Nat) (a : Option Addr) (n c pos : Nat) : Prop :=
  w.cell? ⟨pb, 0, none⟩ = some (.slice a n c) ∧ w.cell? ⟨pb, 1, none⟩ = some (.int .i64 pos) ∧ w.cell? ⟨pb, 2, none⟩ = some (.map none) ∧ w.cell? ⟨pb, 3, none⟩ = some (.slice none 0 0) ∧ w.cell? ⟨pb, 4, none⟩ = some (.slice none 0 0) ∧ w.frozen? ⟨pb, 1, none⟩ = false

theorem Parser.put {w : World} {pb : Nat} {a : Option Addr} {n c pos : Nat} (h : Parser w pb a n c pos) (q : Nat) : Parser (w.setCell ⟨pb, 1, none⟩ (.int .i64 q)) pb a n c q := by
  obtain ⟨h0, h1, h2, h3, h4, h5⟩ := h
  refine ⟨?_, World.cell?_setCell_same _ _ _ h1, ?_, ?_, ?_, ?_⟩
  · rw [World.cell?_setCell_other _ _ _ _ (by simp)]; exact h0
  · rw [World.cell?_setCell_other _ _ _ _ (by simp)]; exact h2
  · rw [World.cell?_setCell_other _ _ _ _ (by simp)]; exact h3
  · rw [World.cell?_setCell_other _ _ _ _ (by simp)]; exact h4
  · rw [World.frozen?_setCell]; exact h5

theorem Parser.drewN {w : World} {pb : Nat} {a : Option Addr} {n c pos : Nat} (h : Parser w pb a n c pos) (m : Nat) : Parser (w.drewN m) pb a n c pos := h

theorem dig_end {Z : Nat → Int} {n pos q : Nat} (h : q + dcount Z (n - q) q = pos + dcount Z (n - pos) pos) (h0 : dcount Z (n - q) q = 0) : pos + dcount Z (n - pos) pos = q := by omega
theorem dig_len {Z : Nat → Int} {n pos q : Nat} (h : q + dcount Z (n - q) q = pos + dcount Z (n - pos) pos) (h0 : dcount Z (n - q) q = 0) : ((dcount Z (n - pos) pos : Nat) : Int) = (q : Int) - (pos : Int) := by omega

set_option maxHeartbeats 2000000 in
theorem digits_spec (w0 : World) (pb : Nat) (a : Option Addr) (n c pos : Nat) (Z : Nat → Int) (w : World) (hp : Parser w pb a n c pos) (hz : NumAt .u8 w0 a n Z) (hs : w0.heap.size ≤ pb) (hb : Below w0.heap.size w0 w) (hn : n ≤ 1048576) (hpos : pos ≤ 1048577) :
    Calls Yba.prog 5 #[.pointer (some ⟨pb, 0, none⟩)] w fun e w' => e = .returned (.int .i64 (dcount Z (n - pos) pos : Nat)) ∧ Parser w' pb a n c (pos + dcount Z (n - pos) pos) ∧ Below w0.heap.size w0 w' := by
  have HZ := hide hz
  have HP0 := hide hp
  have HB0 := hide hb
  obtain ⟨p0, p1, _, _, _, _⟩ := hp
  clear hz hb
  have hdl := dcount_le Z (n - pos) pos
  go_enter Yba.func5, Yba.ntmps5
  go_wp2_with fail
  go_loopg [] (n - pos) (fun g wr => ∃ q : Nat, g = n - q ∧ pos ≤ q ∧ q ≤ 1048577 ∧ q + dcount Z (n - q) q = pos + dcount Z (n - pos) pos ∧ Parser wr pb a n c q ∧ Below w0.heap.size w0 wr)
  case atStart => exact ⟨pos, rfl, Nat.le_refl _, hpos, rfl, HP0.out, HB0.out⟩
  case round =>
    clear HP0 HB0 p0 p1
    obtain ⟨q, rfl, hq, hq2, hd, hP, hB⟩ := hrel
    have HP := hide hP
    have HB := hide hB
    obtain ⟨p0, p1, _, _, _, f1⟩ := hP
    have HDD := hide hd
    clear hB hd
    by_cases hlt : q < n
    · have hI : (q : Int) < (n : Int) := by omega
      have hI' : decide ((q : Int) < (n : Int)) = true := by simp [hlt]
      obtain ⟨b, off, rfl, hc⟩ := HZ.out.below HB.out (Nat.le_refl _) q hlt
      by_cases d1 : 48 ≤ Z q
      · by_cases d2 : Z q ≤ 57
        · have HD := hide (dcount_step hlt ⟨d1, d2⟩)
          go_wp2_with fail
          go_quiet (fail)
          go_wp2_with fail
          go_roundg (n - (q + 1))
          case measure => omega
          case rel => exact ⟨q + 1, rfl, by omega, by omega, by have := HDD.out; have := HD.out; omega, by have := (HP.out.drewN nq).put (q + 1); simpa using this, by exact (HB.out.trans (below_drewN _ _ nq)).setCell hs _⟩
        · have HD := hide (dcount_stop hlt (fun h => d2 h.2))
          have d2' : decide (Z q ≤ 57) = false := by simp [d2]
          go_wp2_with fail
          go_quiet (fail)
          go_wp2_with fail
          go_ret
          exact ⟨by rw [dig_len HDD.out HD.out]; go_num, by rw [dig_end HDD.out HD.out]; exact HP.out.drewN nq, HB.out.trans (below_drewN _ _ nq)⟩
      · have HD := hide (dcount_stop hlt (fun h => d1 h.1))
        have d1' : decide (48 ≤ Z q) = false := by simp [d1]
        go_wp2_with fail
        go_quiet (fail)
        go_wp2_with fail
        go_ret
        exact ⟨by rw [dig_len HDD.out HD.out]; go_num, by rw [dig_end HDD.out HD.out]; exact HP.out.drewN nq, HB.out.trans (below_drewN _ _ nq)⟩
    · have HD := hide (dcount_end (Z := Z) hlt)
      have hI' : decide ((q : Int) < (n : Int)) = false := by simp [hlt]
      go_wp2_with fail
      go_quiet (fail)
      go_wp2_with fail
      go_ret
      exact ⟨by rw [dig_len HDD.out HD.out]; go_num, by rw [dig_end HDD.out HD.out]; exact HP.out.drewN nq, HB.out.trans (below_drewN _ _ nq)⟩

theorem wrap_digit {z : Int} (h0 : 0 ≤ z) (h1 : z ≤ 255) : (9 < IntKind.wrap .u8 (z - 48)) ↔ ¬ (48 ≤ z ∧ z ≤ 57) := by
  simp [IntKind.wrap, IntKind.bits, IntKind.signed]
  omega

set_option maxHeartbeats 2000000 in
theorem count_spec (a : Option Addr) (n c pos : Nat) (Z : Nat → Int) (w : World) (hz : NumAt .u8 w a n Z) (hr : ∀ i, i < n → 0 ≤ Z i ∧ Z i ≤ 255) (hn : n ≤ 1048576) (hpos : pos ≤ 1048577) :
    Calls Yba.prog 6 #[.slice a n c, .int .i64 pos] w fun e w' => e = .returned (.int .i64 (dcount Z (n - pos) pos : Nat)) ∧ w' = w := by
  have HZ := hide hz
  have HR := hide hr
  clear hz hr
  go_enter Yba.func6, Yba.ntmps6
  go_wp2_with fail
  go_loopg [5, 6] (n - pos) (fun g t i wr => ∃ q : Nat, g = n - q ∧ pos ≤ q ∧ q ≤ 1048577 ∧ q + dcount Z (n - q) q = pos + dcount Z (n - pos) pos ∧ i = .int .i64 q ∧ t = .int .i64 ((q : Int) - (pos : Int)) ∧ w = wr)
  case atStart => exact ⟨pos, rfl, Nat.le_refl _, hpos, rfl, rfl, by simp, rfl⟩
  case round =>
    obtain ⟨q, rfl, hq, hq2, hd, rfl, rfl, rfl⟩ := hrel
    have HDD := hide hd
    clear hd
    by_cases hlt : q < n
    · have hI : (q : Int) < (n : Int) := by omega
      obtain ⟨b, off, rfl, hc⟩ := HZ.out q hlt
      obtain ⟨r0, r1⟩ := HR.out q hlt
      have hw := wrap_digit r0 r1
      by_cases d : 48 ≤ Z q ∧ Z q ≤ 57
      · have HD := hide (dcount_step hlt d)
        have hw' : ¬ (9 < IntKind.wrap .u8 (Z q - 48)) := fun h => hw.1 h d
        clear hw d
        go_wp2_with fail
        go_roundg (n - (q + 1))
        case measure => omega
        case rel => exact ⟨q + 1, rfl, by omega, by omega, by have := HDD.out; have := HD.out; omega, by go_num, by go_num, rfl⟩
      · have HD := hide (dcount_stop hlt d)
        have hw' := hw.2 d
        clear hw
        go_wp2_with fail
        go_ret
        exact ⟨by rw [dig_len HDD.out HD.out]; rfl, rfl⟩
    · have HD := hide (dcount_end (Z := Z) hlt)
      go_wp2_with fail
      go_ret
      exact ⟨by rw [dig_len HDD.out HD.out]; rfl, rfl⟩
end Go.Proofs.Ybulkdwgk
