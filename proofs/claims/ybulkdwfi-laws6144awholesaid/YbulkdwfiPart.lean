import Derived.Test.YbulkdwfiAdd
namespace Go.Proofs.Ybulkdwfi
set_option linter.unusedVariables false
set_option linter.unusedSimpArgs false
open Go.RowKit

theorem add_any (base kb n m : Nat) (B E : Nat → Int) (a : Option Addr) (l c : Nat) (Z : Nat → Int) (w : World) (hK : Kept w base kb n m B E) (hz : NumAt .u8 w a l Z) (hnil : a = none → l = 0 ∧ c = 0) (hnl : n + l ≤ 1048576) (hm : m ≤ 65536) :
    Calls Yba.prog 4 #[.pointer (some ⟨kb, 0, none⟩), .slice a l c] w fun e w' => e = .returned (.tuple #[]) ∧ Kept w' base kb (n + l) (m + 1) (fun i => if i < n then B i else Z (i - n)) (fun i => if i < m then E i else ((n + l : Nat) : Int)) ∧ Below kb w w' := by
  cases a with
  | none =>
    obtain ⟨rfl, rfl⟩ := hnil rfl
    refine (add_nil base kb n m B E w hK hnl hm).mono fun e w' ⟨h1, h2, h3⟩ => ⟨h1, ?_, h3⟩
    obtain ⟨ba, bc, ea, ec, c0, c1, f0, f1, hob, hoe, hkb, hbs⟩ := h2
    refine ⟨ba, bc, ea, ec, c0, c1, f0, f1, ?_, hoe, hkb, hbs⟩
    rw [nums_congr (Y := B) (fun i hi => if_pos (by simpa using hi))]
    exact hob
  | some x => exact add_some base kb n m B E x l c Z w hK hz hnl hm

/-- What part hands back: l bytes from place s on of the row g. -/
def PartRes (w : World) (g s l : Nat) (ev : Ending) (w' : World) : Prop := ∃ ga gc, ev = .returned (.slice ga l gc) ∧ (ga = none → l = 0) ∧ (0 < l → ga = some ⟨g, s, none⟩) ∧ ∃ q, w' = w.drewN q

set_option maxHeartbeats 1000000 in
theorem part_some (base kb n m idx : Nat) (B E : Nat → Int) (s e : Nat) (g bc : Nat) (ea : Option Addr) (ec : Nat) (w : World) (c0 : w.cell? ⟨kb, 0, none⟩ = some (.slice (some ⟨g, 0, none⟩) n bc)) (c1 : w.cell? ⟨kb, 1, none⟩ = some (.slice ea m ec)) (hb : NumAt .u8 w (some ⟨g, 0, none⟩) n B) (he : NumAt .i64 w ea m E)
    (hi : idx < m) (hs : (idx = 0 ∧ s = 0) ∨ (0 < idx ∧ E (idx - 1) = (s : Int))) (hee : E idx = (e : Int)) (hse : s ≤ e) (hen : e ≤ n) (hnb : n ≤ bc) (hm : m ≤ 65536) (hn : n ≤ 1048576) (hbc : bc ≤ maxLen) :
    Calls Yba.prog 7 #[.pointer (some ⟨kb, 0, none⟩), .int .i64 idx] w (PartRes w g s (e - s)) := by
  unfold maxLen at hbc
  obtain ⟨eb, eo, rfl, ce⟩ := he idx hi
  rw [hee] at ce
  have hI : (idx : Int) < (m : Int) := by omega
  have hI0 : (0 : Int) ≤ (idx : Int) := by omega
  have q1 : (s : Int) ≤ (e : Int) := by omega
  have q2 : (e : Int) ≤ (bc : Int) := by omega
  have q0 : (0 : Int) ≤ (s : Int) := by omega
  rcases hs with ⟨rfl, rfl⟩ | ⟨h0, hs⟩
  · simp only [Nat.add_zero] at ce
    clear hb he hee
    go_enter Yba.func7, Yba.ntmps7
    go_wp2
    go_quiet (fail)
    go_wp2
    all_goals
      go_ret
      exact ⟨_, _, rfl, fun h => (by cases h), fun h => (by first | rfl | (simp; omega) | simp), nq, rfl⟩
  · obtain ⟨eb', eo', e1, ce'⟩ := he (idx - 1) (by omega)
    simp only [Option.some.injEq, Addr.mk.injEq, and_true] at e1
    obtain ⟨rfl, rfl⟩ := e1
    rw [hs] at ce'
    clear hb he hee hs
    go_enter Yba.func7, Yba.ntmps7
    go_wp2
    go_quiet (fail)
    go_wp2
    all_goals
      go_ret
      exact ⟨_, _, rfl, fun h => (by cases h), fun h => (by first | rfl | (simp; omega) | simp), nq, rfl⟩

set_option maxHeartbeats 1000000 in
/-- No bytes at all: the nil slice. -/
theorem part_nil (kb m idx : Nat) (E : Nat → Int) (ea : Option Addr) (ec : Nat) (w : World) (c0 : w.cell? ⟨kb, 0, none⟩ = some (.slice none 0 0)) (c1 : w.cell? ⟨kb, 1, none⟩ = some (.slice ea m ec)) (he : NumAt .i64 w ea m E)
    (hi : idx < m) (hz : ∀ i, i < m → E i = 0) (hm : m ≤ 65536) (g : Nat) :
    Calls Yba.prog 7 #[.pointer (some ⟨kb, 0, none⟩), .int .i64 idx] w (PartRes w g 0 0) := by
  obtain ⟨eb, eo, rfl, ce⟩ := he idx hi
  rw [hz idx hi] at ce
  have hI : (idx : Int) < (m : Int) := by omega
  have hI0 : (0 : Int) ≤ (idx : Int) := by omega
  by_cases h0 : idx = 0
  · subst h0
    simp only [Nat.add_zero] at ce
    clear he hz
    go_enter Yba.func7, Yba.ntmps7
    go_wp2
    go_quiet (fail)
    go_wp2
    go_ret
    exact ⟨_, _, rfl, fun _ => rfl, fun h => absurd h (Nat.lt_irrefl _), nq, rfl⟩
  · obtain ⟨eb', eo', e1, ce'⟩ := he (idx - 1) (by omega)
    simp only [Option.some.injEq, Addr.mk.injEq, and_true] at e1
    obtain ⟨rfl, rfl⟩ := e1
    rw [hz (idx - 1) (by omega)] at ce'
    have h0' : 0 < idx := by omega
    clear he hz h0
    go_enter Yba.func7, Yba.ntmps7
    go_wp2
    go_quiet (fail)
    go_wp2
    go_ret
    exact ⟨_, _, rfl, fun _ => rfl, fun h => absurd h (Nat.lt_irrefl _), nq, rfl⟩
end Go.Proofs.Ybulkdwfi
