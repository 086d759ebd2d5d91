import Derived.Test.YbulkdwfiFns
import Derived.Deep.RegionLaw
import Derived.Deep.DrawnRows
namespace Go.Proofs.Ybulkdwfi
open Go.RowKit
attribute [local go_sem ↓] Go.wp_at_zero Go.wp_at_succ

/-- The chunk behind kb: n bytes B, m ends E, each in a row of the call's own, from base on. -/
def Kept (w : World) (base kb n m : Nat) (B E : Nat → Int) : Prop :=
  ∃ ba bc ea ec, w.cell? ⟨kb, 0, none⟩ = some (.slice ba n bc) ∧ w.cell? ⟨kb, 1, none⟩ = some (.slice ea m ec) ∧ w.frozen? ⟨kb, 0, none⟩ = false ∧ w.frozen? ⟨kb, 1, none⟩ = false ∧
    w.ownsRow base 5 1 (.slice ba n bc) n (nums .u8 B n) ∧ w.ownsRow base 3 1 (.slice ea m ec) m (nums .i64 E m) ∧ kb < base ∧ base ≤ w.heap.size

/-- A row of ints stays owned while a row of bytes grows. -/
theorem owned_other {w w' : World} {base : Nat} {t u : TypeId} {v x : Value} {n m : Nat} {xs ys : List Value} (h : w.ownsRow base t 1 v n xs) (hx : w.ownsRow base u 1 x m ys) (htu : t ≠ u) (hg : w.grownBy w' x.ownBlock) : w'.ownsRow base t 1 v n xs := by
  obtain ⟨h1, h2 | ⟨g, cap, cur, rfl, hb, hh, r1, r2, r3, r4⟩⟩ := h
  · exact ⟨h1, .inl h2⟩
  · refine ⟨h1, .inr ⟨g, cap, cur, rfl, hb, ?_, r1, r2, r3, r4⟩⟩
    obtain ⟨hlt, _⟩ := Array.getElem?_eq_some_iff.1 hh
    rw [hg.block g hlt ?_]
    · exact hh
    · obtain ⟨_, ⟨rfl, _⟩ | ⟨g2, cap2, cur2, rfl, _, hh2, _⟩⟩ := hx
      · simp [Value.ownBlock]
      · simp only [Value.ownBlock, ne_eq, Option.some.injEq]
        intro e
        subst e
        rw [hh] at hh2
        simp at hh2
        exact htu hh2.2

theorem own_far {w w' : World} {base : Nat} {t : TypeId} {x : Value} {m : Nat} {ys : List Value} (hx : w.ownsRow base t 1 x m ys) (hg : w.grownBy w' x.ownBlock) {kb : Nat} (hk : kb < base) (hb : base ≤ w.heap.size) :
    (∀ o, w'.cell? ⟨kb, o, none⟩ = w.cell? ⟨kb, o, none⟩) ∧ (∀ o, w'.frozen? ⟨kb, o, none⟩ = w.frozen? ⟨kb, o, none⟩) ∧ Below kb w w' := by
  have hrow : ∀ k, x.ownBlock = some k → base ≤ k := by
    obtain ⟨_, ⟨rfl, _⟩ | ⟨g2, cap2, cur2, rfl, h1, _⟩⟩ := hx
    · intro k hk; simp [Value.ownBlock] at hk
    · intro k hk; simp [Value.ownBlock] at hk; omega
  have hbl : w'.heap[kb]? = w.heap[kb]? := hg.block kb (by omega) (fun e => by have := hrow kb e.symm; omega)
  exact ⟨fun o => World.cell?_of_block (w := w) (by exact hbl), fun o => World.frozen?_of_block (w := w) (by exact hbl), (Below.refl kb w).grown hg (by omega) (fun k e => by have := hrow k e; omega)⟩

theorem own_far2 {w w' : World} {o : Obj} {base : Nat} {t u : TypeId} {x y : Value} {m q : Nat} {xs ys : List Value} (hx : w.ownsRow base t 1 x m xs) (hy : w.ownsRow base u 1 y q ys) (hut : u ≠ t) (hg : (w.alloc o).drew.grownBy w' x.ownBlock) {kb : Nat} (hk : kb < base) (hb : base ≤ w.heap.size) :
    (∀ i, w'.cell? ⟨kb, i, none⟩ = w.cell? ⟨kb, i, none⟩) ∧ (∀ i, w'.frozen? ⟨kb, i, none⟩ = w.frozen? ⟨kb, i, none⟩) ∧ Below kb w w' ∧ w'.ownsRow base u 1 y q ys ∧ w.heap.size ≤ w'.heap.size := by
  obtain ⟨h1, h2, h3⟩ := own_far ((hx.alloc o).drew) hg hk (by simp; omega)
  refine ⟨fun i => (h1 i).trans (World.cell?_alloc_lt _ _ _ (by show kb < _; omega)), fun i => (h2 i).trans (World.frozen?_of_block (w := w) (Below.heap_alloc _ _ _ (by show kb < _; omega))), ?_, owned_other ((hy.alloc o).drew) ((hx.alloc o).drew) hut hg, ?_⟩
  · exact ((Below.refl kb w).alloc (by omega) o).trans ⟨h3.os, h3.tape, h3.output, h3.size, h3.block⟩
  · have := hg.size
    simp at this
    omega

theorem nums_snoc (k : IntKind) (E : Nat → Int) (m : Nat) (x : Int) : nums k E m ++ [.int k x] = nums k (fun i => if i < m then E i else x) (m + 1) := by
  have := nums_append k E (fun _ => x) m 1
  simpa [nums] using this

theorem add_close {w w2 w5 : World} {base kb n l m g5 c5 c1' : Nat} {a1 : Option Addr} {ev : Value} {B E : Nat → Int} (t0 : w5.cell? ⟨kb, 0, none⟩ = some (.slice a1 (n + l) c1')) (t1 : w5.cell? ⟨kb, 1, none⟩ = some ev) (t2 : w5.frozen? ⟨kb, 0, none⟩ = false) (t3 : w5.frozen? ⟨kb, 1, none⟩ = false)
    (ho : w5.ownsRow base 3 1 (.slice (some ⟨g5, 0, none⟩) (m + 1) c5) (m + 1) (nums .i64 E m ++ [.int .i64 ((n + l : Nat) : Int)])) (hb : w5.ownsRow base 5 1 (.slice a1 (n + l) c1') (n + l) (nums .u8 B (n + l))) (h1 : Below kb w w2) (h2 : Below kb w2 w5) (hk : kb < base) (hs : base ≤ w5.heap.size) :
    Kept (w5.setCell ⟨kb, 1, none⟩ (.slice (some ⟨g5, 0, none⟩) (m + 1) c5)) base kb (n + l) (m + 1) B (fun i => if i < m then E i else ((n + l : Nat) : Int)) ∧ Below kb w (w5.setCell ⟨kb, 1, none⟩ (.slice (some ⟨g5, 0, none⟩) (m + 1) c5)) := by
  rw [nums_snoc] at ho
  refine ⟨⟨a1, c1', _, c5, ?_, World.cell?_setCell_same _ _ _ t1, ?_, ?_, ownsRow_setCell_below hb hk _, ownsRow_setCell_below ho hk _, hk, ?_⟩, (h1.trans h2).setCell (Nat.le_refl _) _⟩
  · rw [World.cell?_setCell_other _ _ _ _ (by simp)]; exact t0
  · rw [World.frozen?_setCell]; exact t2
  · rw [World.frozen?_setCell]; exact t3
  · simpa [World.setCell] using hs

set_option maxHeartbeats 1000000 in
theorem add_some (base kb n m : Nat) (B E : Nat → Int) (x : Addr) (l c : Nat) (Z : Nat → Int) (w : World) (hK : Kept w base kb n m B E) (hz : NumAt .u8 w (some x) l Z) (hnl : n + l ≤ 1048576) (hm : m ≤ 65536) :
    Calls Yba.prog 4 #[.pointer (some ⟨kb, 0, none⟩), .slice (some x) l c] w fun e w' => e = .returned (.tuple #[]) ∧ Kept w' base kb (n + l) (m + 1) (fun i => if i < n then B i else Z (i - n)) (fun i => if i < m then E i else ((n + l : Nat) : Int)) ∧ Below kb w w' := by
  obtain ⟨ba, bc, ea, ec, c0, c1, f0, f1, hob, hoe, hkb, hbs⟩ := hK
  obtain ⟨i0, hi, hz0, hz1, hz2⟩ := info_parts Yba.info5
  obtain ⟨j0, ji, jz0, jz1, jz2⟩ := info_parts Yba.info3
  have HN := hide hz.news
  have HB := hide hob
  have HE := hide hoe
  clear hz hob hoe
  go_enter Yba.func4, Yba.ntmps4
  go_wp2_with (at_builtin; refine wpList_append_own _ rfl (.tmp 8) (.tmp 9) 24 rfl base 5 i0 (.int .u8 0) 1 1 Yba.underlying24 hi hz0 hz1 hz2 rfl (by omega) (.slice ba n bc) n (nums .u8 B n) rfl HB.out x l c (nums .u8 Z l) rfl (by rw [nums_length]; omega) HN.out (nums_one _ _ _) (by unfold maxLen; omega) (by omega) hbs ?_; intro v1 w1 hown hgrow _; rw [nums_append] at hown; obtain ⟨a1, c1', hv1, q1, q2, q3, q4, q5⟩ := NumAt.of_owned hown; obtain ⟨k1, k2, k3⟩ := own_far HB.out hgrow hkb hbs; have g0 := (k1 0).trans c0; have g1 := (k1 1).trans c1; have y0 := (k2 0).trans f0; have y1 := (k2 1).trans f1; have HB1 := hide hown; have HE1 := hide (owned_other HE.out HB.out (by decide) hgrow); have hs1 := hgrow.size; rw [hv1]; clear k1 k2 hown hgrow)
  have b0 : (w1.setCell ⟨kb, 0, none⟩ (.slice a1 (n + l) c1')).cell? ⟨kb, 0, none⟩ = some (.slice a1 (n + l) c1') := World.cell?_setCell_same _ _ _ g0
  have b1 : (w1.setCell ⟨kb, 0, none⟩ (.slice a1 (n + l) c1')).cell? ⟨kb, 1, none⟩ = some (.slice ea m ec) := by rw [World.cell?_setCell_other _ _ _ _ (by simp)]; exact g1
  have d0 : (w1.setCell ⟨kb, 0, none⟩ (.slice a1 (n + l) c1')).frozen? ⟨kb, 0, none⟩ = false := by rw [World.frozen?_setCell]; exact y0
  have d1 : (w1.setCell ⟨kb, 0, none⟩ (.slice a1 (n + l) c1')).frozen? ⟨kb, 1, none⟩ = false := by rw [World.frozen?_setCell]; exact y1
  rw [hv1] at HB1
  have HB2 := hide (ownsRow_setCell_below HB1.out (a := ⟨kb, 0, none⟩) hkb (.slice a1 (n + l) c1'))
  have HE2 := hide (ownsRow_setCell_below HE1.out (a := ⟨kb, 0, none⟩) hkb (.slice a1 (n + l) c1'))
  have HK2 := hide (k3.setCell (p := ⟨kb, 0, none⟩) (Nat.le_refl _) (.slice a1 (n + l) c1'))
  have hb2 : base ≤ (w1.setCell ⟨kb, 0, none⟩ (.slice a1 (n + l) c1')).heap.size := by simp [World.setCell]; omega
  clear HB1 HE1 HB HE HN k3 g0 g1 y0 y1 c0 c1 f0 f1 hv1 q4 q5 hbs hs1
  generalize w1.setCell ⟨kb, 0, none⟩ (.slice a1 (n + l) c1') = w2 at *
  have hkw : kb < w2.heap.size := by omega
  go_region_law
    ((refine step_append_lies _ (by rfl) _ _ _ (by rfl) base 3 j0 _ 1 8 Yba.underlying25 ji jz0 jz1 jz2 rfl (by omega) (.slice ea m ec) m (nums .i64 E m) (by rfl) ((HE2.out.alloc _).drew)
        ⟨w2.heap.size, 0, none⟩ 1 1 [.int .i64 ((n + l : Nat) : Int)] (by rfl) (by rfl) (World.news_of_block (cs := #[.int .i64 ((n + l : Nat) : Int)]) (t := 3) (fr := (0, 0)) (heap_alloc_new w2 _)) (by simp [Value.oneCell'])
        (by omega) (by unfold maxLen; omega) (by omega) (by simp; omega) (w2.heap.size + 1) (by simp) ?_; intro g5 c5 w5 hown5 hgrow5 hat5 hlt5; obtain ⟨k1, k2, k3, k4, k5⟩ := own_far2 HE2.out HB2.out (by decide) hgrow5 hkb hb2; have t0 := (k1 0).trans b0; have t1 := (k1 1).trans b1; have t2 := (k2 0).trans d0; have t3 := (k2 1).trans d1; have HO := hide hown5; have HBo := hide k4; clear k1 k2 k4 hown5 hgrow5))
  all_goals
    go_wp2
    go_end0
    exact ⟨rfl, add_close t0 t1 t2 t3 HO.out HBo.out HK2.out k3 hkb (Nat.le_trans hb2 k5)⟩
set_option maxHeartbeats 1000000 in
theorem add_nil (base kb n m : Nat) (B E : Nat → Int) (w : World) (hK : Kept w base kb n m B E) (_hnl : n ≤ 1048576) (hm : m ≤ 65536) :
    Calls Yba.prog 4 #[.pointer (some ⟨kb, 0, none⟩), .slice none 0 0] w fun e w' => e = .returned (.tuple #[]) ∧ Kept w' base kb (n + 0) (m + 1) B (fun i => if i < m then E i else ((n + 0 : Nat) : Int)) ∧ Below kb w w' := by
  obtain ⟨ba, bc, ea, ec, c0, c1, f0, f1, hob, hoe, hkb, hbs⟩ := hK
  obtain ⟨i0, hi, hz0, hz1, hz2⟩ := info_parts Yba.info5
  obtain ⟨j0, ji, jz0, jz1, jz2⟩ := info_parts Yba.info3
  have HB := hide hob
  have HE := hide hoe
  clear hob hoe
  go_enter Yba.func4, Yba.ntmps4
  go_wp2_with (at_builtin; refine wpList_append_own_none rfl (.tmp 8) (.tmp 9) 24 rfl base 5 i0 1 Yba.underlying24 hi (.slice ba n bc) n (nums .u8 B n) rfl HB.out rfl ?_)
  have b0 : (w.setCell ⟨kb, 0, none⟩ (.slice ba n bc)).cell? ⟨kb, 0, none⟩ = some (.slice ba n bc) := World.cell?_setCell_same _ _ _ c0
  have b1 : (w.setCell ⟨kb, 0, none⟩ (.slice ba n bc)).cell? ⟨kb, 1, none⟩ = some (.slice ea m ec) := by rw [World.cell?_setCell_other _ _ _ _ (by simp)]; exact c1
  have d0 : (w.setCell ⟨kb, 0, none⟩ (.slice ba n bc)).frozen? ⟨kb, 0, none⟩ = false := by rw [World.frozen?_setCell]; exact f0
  have d1 : (w.setCell ⟨kb, 0, none⟩ (.slice ba n bc)).frozen? ⟨kb, 1, none⟩ = false := by rw [World.frozen?_setCell]; exact f1
  have HB2 := hide (ownsRow_setCell_below HB.out (a := ⟨kb, 0, none⟩) hkb (.slice ba n bc))
  have HE2 := hide (ownsRow_setCell_below HE.out (a := ⟨kb, 0, none⟩) hkb (.slice ba n bc))
  have HK2 := hide ((Below.refl kb w).setCell (p := ⟨kb, 0, none⟩) (Nat.le_refl _) (.slice ba n bc))
  have hb2 : base ≤ (w.setCell ⟨kb, 0, none⟩ (.slice ba n bc)).heap.size := by simp [World.setCell]; omega
  clear HB HE c0 c1 f0 f1 hbs
  generalize w.setCell ⟨kb, 0, none⟩ (.slice ba n bc) = w2 at *
  have hkw : kb < w2.heap.size := by omega
  go_region_law
    ((refine step_append_lies _ (by rfl) _ _ _ (by rfl) base 3 j0 _ 1 8 Yba.underlying25 ji jz0 jz1 jz2 rfl (by omega) (.slice ea m ec) m (nums .i64 E m) (by rfl) ((HE2.out.alloc _).drew)
        ⟨w2.heap.size, 0, none⟩ 1 1 [.int .i64 (n : Int)] (by rfl) (by rfl) (World.news_of_block (cs := #[.int .i64 (n : Int)]) (t := 3) (fr := (0, 0)) (heap_alloc_new w2 _)) (by simp [Value.oneCell'])
        (by omega) (by unfold maxLen; omega) (by omega) (by simp; omega) (w2.heap.size + 1) (by simp) ?_; intro g5 c5 w5 hown5 hgrow5 hat5 hlt5; obtain ⟨k1, k2, k3, k4, k5⟩ := own_far2 HE2.out HB2.out (by decide) hgrow5 hkb hb2; have t0 := (k1 0).trans b0; have t1 := (k1 1).trans b1; have t2 := (k2 0).trans d0; have t3 := (k2 1).trans d1; have HO := hide hown5; have HBo := hide k4; clear k1 k2 k4 hown5 hgrow5))
  all_goals
    go_wp2
    go_end0
    exact ⟨rfl, add_close (l := 0) t0 t1 t2 t3 HO.out HBo.out HK2.out k3 hkb (Nat.le_trans hb2 k5)⟩
end Go.Proofs.Ybulkdwfi
