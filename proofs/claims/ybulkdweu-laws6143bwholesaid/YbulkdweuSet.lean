import Derived.Test.YbulkdweuAvps
namespace Go.Proofs.Ybulkdweu
open Go.RowKit

/-- The Data cell of AVP k written. -/
theorem AvpAt.setData {w : World} {g n k : Nat} {C F V : Nat → Int} {D : Nat → Value} (h : AvpAt w (some ⟨g, 0, none⟩) n C F V D) (hk : k < n) (v : Value) :
    AvpAt (w.setCell ⟨g, k * 4 + 3, none⟩ v) (some ⟨g, 0, none⟩) n C F V (fun i => if i = k then v else D i) := by
  intro i hi
  obtain ⟨b, off, e, h0, h1, h2, h3⟩ := h i hi
  simp only [Option.some.injEq, Addr.mk.injEq, and_true] at e
  obtain ⟨rfl, rfl⟩ := e
  refine ⟨g, 0, rfl, ?_, ?_, ?_, ?_⟩
  · rw [World.cell?_setCell_other _ _ _ _ (by simp <;> omega)]; exact h0
  · rw [World.cell?_setCell_other _ _ _ _ (by simp <;> omega)]; exact h1
  · rw [World.cell?_setCell_other _ _ _ _ (by simp <;> omega)]; exact h2
  · by_cases e : i = k
    · subst e
      simp only [if_pos]; rw [show 0 + i * 4 + 3 = i * 4 + 3 from by omega]
      rw [show 0 + i * 4 + 3 = i * 4 + 3 from by omega] at h3
      exact World.cell?_setCell_same _ _ _ h3
    · simp only [if_neg e]; rw [World.cell?_setCell_other _ _ _ _ (by simp <;> omega)]; exact h3

theorem AvpAt.setOther {w : World} {a : Option Addr} {n : Nat} {C F V : Nat → Int} {D : Nat → Value} (h : AvpAt w a n C F V D) {p : Addr} (hp : ∀ x, a = some x → x.block ≠ p.block) (v : Value) : AvpAt (w.setCell p v) a n C F V D := by
  intro i hi
  obtain ⟨b, off, rfl, h0, h1, h2, h3⟩ := h i hi
  have hne : ∀ o, p ≠ (⟨b, o, none⟩ : Addr) := fun o e => hp _ rfl (by rw [e])
  exact ⟨b, off, rfl, by rw [World.cell?_setCell_other _ _ _ _ (hne _)]; exact h0, by rw [World.cell?_setCell_other _ _ _ _ (hne _)]; exact h1, by rw [World.cell?_setCell_other _ _ _ _ (hne _)]; exact h2, by rw [World.cell?_setCell_other _ _ _ _ (hne _)]; exact h3⟩

set_option maxHeartbeats 400000 in
theorem set_any (mb : Nat) (a : Option Addr) (n c : Nat) (C F V : Nat → Int) (D : Nat → Value) (code : Int) (da : Option Addr) (dn dc : Nat) (w : World) (hn : n ≤ 1048576) (hr : AvpAt w a n C F V D) (hm : w.cell? ⟨mb, 5, none⟩ = some (.slice a n c))
    (hfm : w.frozen? ⟨mb, 5, none⟩ = false) (hd : ∀ i, ∃ x n m, D i = .slice x n m) :
    Calls Yba.prog 6 #[.pointer (some ⟨mb, 0, none⟩), .int .u32 code, .slice da dn dc] w fun e w' => e = .returned (.tuple #[]) ∧ ∃ r, IsFirst (fun i => C i == code && V i == 0) n r ∧
      ((r = -1 ∧ Below w.heap.size w w') ∨ (∃ k g cap : Nat, k < n ∧ r = k ∧ w.heap.size ≤ g ∧ w'.cell? ⟨mb, 5, none⟩ = some (.slice (some ⟨g, 0, none⟩) n cap) ∧ AvpAt w' (some ⟨g, 0, none⟩) n C F V (fun i => if i = k then .slice da dn dc else D i) ∧
        Below mb w w' ∧ Plain w' g ∧ ∀ i, i ≠ 5 → w'.cell? ⟨mb, i, none⟩ = w.cell? ⟨mb, i, none⟩)) := by
  have Hmw : Hid (mb < w.heap.size) := cell_lt hm
  go_enter Yba.func6, Yba.ntmps6
  go_wp2_with fail
  refine (index_any a n c C F V D code mb _ hn hr hm hd).mono ?_
  rintro e w1 ⟨r, rfl, hfst, hb1⟩
  have hfst' := hfst
  have hm1 : w1.cell? ⟨mb, 5, none⟩ = some (.slice a n c) := (hb1.cell (cell_lt hm)).trans hm
  have hfm1 : w1.frozen? ⟨mb, 5, none⟩ = false := (hb1.frozen (cell_lt hm)).trans hfm
  have hr1 := hr.below hb1 (Nat.le_refl _)
  rcases hfst with ⟨rfl, hno⟩ | ⟨k, hk, rfl, hyes, hno⟩
  · have HF : Hid (IsFirst (fun i => C i == code && V i == 0) n (-1)) := hfst'
    clear hno hfst'
    go_wp2_with fail
    exact bodyPost_ret (v := .tuple #[]) (results_none rfl _ _ _) rfl ⟨rfl, -1, HF.out, .inl ⟨rfl, hb1⟩⟩
  · have HF : Hid (IsFirst (fun i => C i == code && V i == 0) n k) := hfst'
    clear hno hfst' hyes
    obtain ⟨b, off, rfl, _⟩ := hr1 k hk
    go_wp2_with fail
    refine (sclone_any b off n c C F V D _ hn (by omega) hr1 hd).mono ?_
    rintro e w2 ⟨g, cap, rfl, hg, hrow, hfz, hb2⟩
    have hm2 : w2.cell? ⟨mb, 5, none⟩ = some (.slice (some ⟨b, off, none⟩) n c) := (hb2.cell (cell_lt hm1)).trans hm1
    have hfm2 : w2.frozen? ⟨mb, 5, none⟩ = false := (hb2.frozen (cell_lt hm1)).trans hfm1
    have hgm : mb < g := Nat.lt_of_lt_of_le (cell_lt hm1) hg
    have hfg := hfz.frozen (k * 4 + 3)
    have hrk := hrow k hk
    simp only [Option.some.injEq, Addr.mk.injEq, and_true] at hrk
    obtain ⟨_, _, ⟨rfl, rfl⟩, _, _, _, hc3⟩ := hrk
    rw [Nat.zero_add] at hc3
    obtain ⟨x, n', m', hD⟩ := hd k
    rw [hD] at hc3
    have HR : Hid (AvpAt w2 (some ⟨g, 0, none⟩) n C F V D) := hrow
    have HZ : Hid (Plain w2 g) := hfz
    clear hrow hfz hr hr1 hd hD hm hm1 hfm hfm1
    have hmw : mb < w.heap.size := Hmw.out
    go_wp2_with fail
    go_end0
    refine ⟨rfl, k, HF.out, .inr ⟨k, g, cap, hk, rfl, Nat.le_trans hb1.size hg, ?_, ?_, ?_, (HZ.out.setCell _ _).setCell _ _, ?_⟩⟩
    · rw [World.cell?_setCell_other _ _ _ _ (by simp <;> omega)]
      exact World.cell?_setCell_same _ _ _ hm2
    · exact (HR.out.setOther (by intro x hx; simp at hx; subst hx; exact Nat.ne_of_gt hgm) _).setData hk _
    · exact (((hb1.mono (Nat.le_of_lt hmw)).trans (hb2.mono (Nat.le_trans (Nat.le_of_lt hmw) hb1.size))).setCell (by exact Nat.le_refl _) _).setCell (by exact Nat.le_of_lt hgm) _
    · intro i hi
      rw [World.cell?_setCell_other _ _ _ _ (by simp <;> omega), World.cell?_setCell_other _ _ _ _ (by simp <;> omega), hb2.cell (by exact Nat.lt_of_lt_of_le hmw hb1.size), hb1.cell (by exact hmw)]

set_option maxHeartbeats 400000 in
/-- Two AVPs of the same header whose Data read alike: true. -/
theorem bsame_true (c f v : Int) (a a' : Option Addr) (n m m' : Nat) (Z : Nat → Int) (w : World) (hnil : a'.isNone = a.isNone) (hb : n ≤ 1048576)
    (hr : ∀ i, i < n → ∃ b off b' off', a = some ⟨b, off, none⟩ ∧ a' = some ⟨b', off', none⟩ ∧ w.cell? ⟨b, off + i, none⟩ = some (.int .u8 (Z i)) ∧ w.cell? ⟨b', off' + i, none⟩ = some (.int .u8 (Z i))) :
    Calls Yba.prog 8 #[.agg #[.int .u32 c, .int .u8 f, .int .u32 v, .slice a n m], .agg #[.int .u32 c, .int .u8 f, .int .u32 v, .slice a' n m']] w fun e w' => e = .returned (.bool true) ∧ Below w.heap.size w w' := by
  go_enter Yba.func8, Yba.ntmps8
  go_wp2_with fail
  refine (beq_true a a' n m m' Z _ hnil hb ?_).mono ?_
  · intro i hi
    obtain ⟨b, off, b', off', rfl, rfl, h1, h2⟩ := hr i hi
    have l1 : b < w.heap.size := cell_lt h1
    have l2 : b' < w.heap.size := cell_lt h2
    exact ⟨b, off, b', off', rfl, rfl, by rw [World.cell?_alloc_lt _ _ _ (by simp; omega), World.cell?_alloc_lt _ _ _ l1]; exact h1, by rw [World.cell?_alloc_lt _ _ _ (by simp; omega), World.cell?_alloc_lt _ _ _ l2]; exact h2⟩
  rintro e w1 ⟨rfl, q, rfl⟩
  clear hr
  go_wp2_with fail
  go_ret
  exact ⟨rfl, ((((Below.refl _ w).alloc (Nat.le_refl _) _).alloc (by simp) _).trans ⟨rfl, rfl, rfl, Nat.le_refl _, fun _ _ => rfl⟩)⟩
end Go.Proofs.Ybulkdweu
