import Derived.Test.YbulkdwhmForget
import Derived.Deep.RegionLaw
import Derived.Deep.RegionLawGrows
namespace Go.Proofs.Ybulkdwhm
open Go.RowKit
set_option linter.unusedVariables false
set_option linter.unusedSimpArgs false
attribute [local go_sem ↓] Go.wp_at_zero Go.wp_at_succ

theorem Yba.info74 : (Yba.prog.info? 74).map (fun i => (i.zero, i.size, i.bytes)) = some (some (.agg #[.string ByteArray.empty, .int .u64 0, .int .i64 0, .pointer none]), 4, 40) := by kernel_rfl

/-- A grant in a block of its own. -/
def vcell (c s p : ByteArray) (l : Bool) (ns : Int) (i : Nat) : Value :=
  if i = 0 then .string c else if i = 1 then .string s else if i = 2 then .string p else if i = 3 then .bool l else if i = 4 then .int .u64 (ns % 1000000000) else if i = 5 then .int .i64 (ns / 1000000000) else .pointer none
def VAt (w : World) (b : Nat) (c s p : ByteArray) (l : Bool) (ns : Int) : Prop := w.rowIs b 76 7 (vcell c s p l ns)
theorem VAt.cells {w : World} {b : Nat} {c s p : ByteArray} {l : Bool} {ns : Int} (h : VAt w b c s p l ns) :
    w.cell? ⟨b, 0, none⟩ = some (.string c) ∧ w.cell? ⟨b, 1, none⟩ = some (.string s) ∧ w.cell? ⟨b, 2, none⟩ = some (.string p) ∧ w.cell? ⟨b, 3, none⟩ = some (.bool l) ∧ w.cell? ⟨b, 4, none⟩ = some (.int .u64 (ns % 1000000000)) ∧ w.cell? ⟨b, 5, none⟩ = some (.int .i64 (ns / 1000000000)) ∧ w.cell? ⟨b, 6, none⟩ = some (.pointer none) :=
  ⟨h.cell (by omega), h.cell (by omega), h.cell (by omega), h.cell (by omega), h.cell (by omega), h.cell (by omega), h.cell (by omega)⟩
theorem VAt.made (w : World) (c s p : ByteArray) (l : Bool) (ns : Int) : VAt (w.alloc (.cells #[.string c, .string s, .string p, .bool l, .int .u64 (ns % 1000000000), .int .i64 (ns / 1000000000), .pointer none] 76)) w.heap.size c s p l ns := by
  refine World.rowIs_alloc w #[.string c, .string s, .string p, .bool l, .int .u64 (ns % 1000000000), .int .i64 (ns / 1000000000), .pointer none] 76 _ fun i hi => ?_
  simp only [List.size_toArray, List.length_cons, List.length_nil] at hi
  rcases (show i = 0 ∨ i = 1 ∨ i = 2 ∨ i = 3 ∨ i = 4 ∨ i = 5 ∨ i = 6 from by omega) with rfl | rfl | rfl | rfl | rfl | rfl | rfl <;> simp [vcell]

/-- Key i of the row at q. -/
def KeyAt (w : World) (q i : Nat) (k : ByteArray) (x : Int) : Prop :=
  w.cell? ⟨q, i * 4, none⟩ = some (.string k) ∧ w.cell? ⟨q, i * 4 + 1, none⟩ = some (.int .u64 (x % 1000000000)) ∧ w.cell? ⟨q, i * 4 + 2, none⟩ = some (.int .i64 (x / 1000000000)) ∧ w.cell? ⟨q, i * 4 + 3, none⟩ = some (.pointer none)

def olds (K : Nat → ByteArray) (X : Nat → Int) (c m : Nat) : List Value := (List.range (m * 4)).map fun j => kc K X (c * 4 + j)
def news (k : ByteArray) (x : Int) : List Value := [.string k, .int .u64 (x % 1000000000), .int .i64 (x / 1000000000), .pointer none]

theorem QSt.olds {w : World} {gb : Nat} {qv : Value} {n j : Nat} {K : Nat → ByteArray} {X : Nat → Int} (h : QSt w gb qv n j K X) :
    ∃ ao, qv = .slice ao (n - j) (n - j) ∧ (ao = none → n - j = 0 ∧ n - j = 0) ∧ ∀ b, ao = some b → ∀ i u, (olds K X j (n - j))[i]? = some u → w.cell? (b.add i) = some u := by
  rcases h with ⟨rfl, rfl, rfl⟩ | ⟨qb, o, h0, h1, ho, rfl, hg, f, hr, hf⟩
  · exact ⟨none, rfl, fun _ => ⟨rfl, rfl⟩, fun b e => by cases e⟩
  · refine ⟨_, rfl, (fun e => by cases e), fun b e i u hu => ?_⟩
    cases e
    simp only [Ybulkdwhm.olds, List.getElem?_map, Option.map_eq_some_iff] at hu
    obtain ⟨x, hx, rfl⟩ := hu
    obtain ⟨hi, hx⟩ := List.getElem?_eq_some_iff.1 hx
    simp at hi hx
    subst hx
    obtain rfl := ho (by omega)
    rw [show (⟨qb, j * 4, none⟩ : Addr).add i = ⟨qb, j * 4 + i, none⟩ from by simp [Addr.add], hr.cell (by omega), hf _ (by omega) (by omega)]

theorem new_keys {w : World} {base : Nat} {v : Value} {m c : Nat} {K : Nat → ByteArray} {X : Nat → Int} {k : ByteArray} {x : Int} (h : w.ownsRow base 74 4 v (m + 1) (olds K X c m ++ news k x)) :
    ∃ q cap, v = .slice (some ⟨q, 0, none⟩) (m + 1) cap ∧ base ≤ q ∧ (∀ i, i < m → KeyAt w q i (K (c + i)) (X (c + i))) ∧ KeyAt w q m k x := by
  obtain ⟨_, ⟨rfl, h0⟩ | ⟨g, cap, cur, rfl, hg, hh, hnc, hcm, hcs, htake⟩⟩ := h
  · omega
  · refine ⟨g, cap, rfl, hg, ?_⟩
    have hget : ∀ i u, i < (m + 1) * 4 → (olds K X c m ++ news k x)[i]? = some u → w.cell? ⟨g, i, none⟩ = some u := by
      intro i u hi hu
      rw [← htake, List.getElem?_take, if_pos hi] at hu
      simp [World.cell?, hh]
      simpa using hu
    have hl : (olds K X c m).length = m * 4 := by simp [olds]
    have hold : ∀ j, j < m * 4 → (olds K X c m ++ news k x)[j]? = some (kc K X (c * 4 + j)) := by
      intro j hj
      rw [List.getElem?_append_left (by omega)]
      simp [olds, hj]
    have hnew : ∀ j, (olds K X c m ++ news k x)[m * 4 + j]? = (news k x)[j]? := by
      intro j
      rw [List.getElem?_append_right (by omega), hl, Nat.add_sub_cancel_left]
    refine ⟨fun i hi => ⟨?_, ?_, ?_, ?_⟩, ?_, ?_, ?_, ?_⟩
    · refine hget _ _ (by omega) ((hold _ (by omega)).trans ?_)
      rw [kc, if_pos (by omega), show (c * 4 + i * 4) / 4 = c + i from by omega]
    · refine hget _ _ (by omega) ((hold _ (by omega)).trans ?_)
      rw [kc, if_neg (by omega), if_pos (by omega), show (c * 4 + (i * 4 + 1)) / 4 = c + i from by omega]
    · refine hget _ _ (by omega) ((hold _ (by omega)).trans ?_)
      rw [kc, if_neg (by omega), if_neg (by omega), if_pos (by omega), show (c * 4 + (i * 4 + 2)) / 4 = c + i from by omega]
    · refine hget _ _ (by omega) ((hold _ (by omega)).trans ?_)
      rw [kc, if_neg (by omega), if_neg (by omega), if_neg (by omega)]
    · exact hget _ _ (by omega) (hnew 0)
    · exact hget _ _ (by omega) (hnew 1)
    · exact hget _ _ (by omega) (hnew 2)
    · exact hget _ _ (by omega) (hnew 3)

theorem cell_alloc_keep {w : World} {a : Addr} {v : Value} (h : w.cell? a = some v) (o : Obj) : (w.alloc o).drew.cell? a = some v := (World.cell?_alloc_lt _ _ _ (cell_lt h)).trans h

theorem frozen_alloc_keep {w : World} {a : Addr} (h : w.frozen? a = false) (hl : a.block < w.heap.size) (o : Obj) : (w.alloc o).drew.frozen? a = false := (World.frozen?_of_block (w := w) (Below.heap_alloc _ _ _ hl)).trans h

theorem KeyAt.setG {w : World} {q i gb : Nat} {k : ByteArray} {x : Int} (h : KeyAt w q i k x) (hq : q ≠ gb) (o : Nat) (v : Value) : KeyAt (w.setCell ⟨gb, o, none⟩ v) q i k x := by
  obtain ⟨h0, h1, h2, h3⟩ := h
  have hne : ∀ o', (⟨gb, o, none⟩ : Addr) ≠ ⟨q, o', none⟩ := fun o' e => hq (congrArg Addr.block e).symm
  exact ⟨by rw [World.cell?_setCell_other _ _ _ _ (hne _)]; exact h0, by rw [World.cell?_setCell_other _ _ _ _ (hne _)]; exact h1, by rw [World.cell?_setCell_other _ _ _ _ (hne _)]; exact h2, by rw [World.cell?_setCell_other _ _ _ _ (hne _)]; exact h3⟩

theorem add_close {w w3 w5 : World} {gb mb q cap m c : Nat} {st : Int} {qv : Value} {Lm : List (ByteArray × Value)} {K : Nat → ByteArray} {X : Nat → Int} {k : ByteArray} {x : Int} {o : Obj}
    (hg : GAt w3 gb st (some mb) qv) (hm : MapIs str w3 mb Lm) (hgm : gb < mb) (hb : Below gb w w3) (hk : Keeps w w3) (hgrow : (w3.alloc o).drew.grownBy w5 none) (hq : (w3.alloc o).drew.heap.size ≤ q) (h1 : ∀ i, i < m → KeyAt w5 q i (K (c + i)) (X (c + i))) (h2 : KeyAt w5 q m k x) :
    (∃ mb q' cap', GAt (w5.setCell ⟨gb, 3, none⟩ (.slice (some ⟨q, 0, none⟩) (m + 1) cap)) gb st (some mb) (.slice (some ⟨q', 0, none⟩) (m + 1) cap') ∧ MapIs str (w5.setCell ⟨gb, 3, none⟩ (.slice (some ⟨q, 0, none⟩) (m + 1) cap)) mb Lm ∧ gb < mb ∧ gb < q' ∧ (∀ i, i < m → KeyAt (w5.setCell ⟨gb, 3, none⟩ (.slice (some ⟨q, 0, none⟩) (m + 1) cap)) q' i (K (c + i)) (X (c + i))) ∧ KeyAt (w5.setCell ⟨gb, 3, none⟩ (.slice (some ⟨q, 0, none⟩) (m + 1) cap)) q' m k x) ∧ Keeps w (w5.setCell ⟨gb, 3, none⟩ (.slice (some ⟨q, 0, none⟩) (m + 1) cap)) ∧ Below gb w (w5.setCell ⟨gb, 3, none⟩ (.slice (some ⟨q, 0, none⟩) (m + 1) cap)) := by
  have hbl : ∀ b, b < w3.heap.size → w5.heap[b]? = w3.heap[b]? := fun b hb => (hgrow.block b (by simp; omega) (by simp)).trans (heap_alloc_old w3 o hb)
  have gl := hg.lt
  have hsz : (w3.alloc o).drew.heap.size = w3.heap.size + 1 := by simp
  have hgq : gb < q := by omega
  have hsz5 := hgrow.size
  refine ⟨⟨mb, q, cap, (hg.of_block (hbl gb gl)).setQ _, hm.of_block ((blk_set_other _ _ _ _ (show mb ≠ gb by omega)).trans (hbl mb hm.lt)), hgm, hgq, fun i hi => (h1 i hi).setG (by omega) _ _, h2.setG (by omega) _ _⟩, ?_, ?_⟩
  · exact Keeps.set (hk.trans fun b t m f r _ _ => r.of_block (hbl b r.lt)) (World.rowIs.of_block hg (hbl gb gl)) (.inl rfl) _ _
  have h5 : Below gb w3 w5 := (((Below.refl gb w3).alloc (Nat.le_of_lt gl) o).trans ⟨rfl, rfl, rfl, Nat.le_refl _, fun _ _ => rfl⟩ : Below gb w3 (w3.alloc o).drew).grown hgrow (by simp; omega) (fun k hk => by simp at hk)
  exact (hb.trans h5).setCell (Nat.le_refl _) _

set_option maxHeartbeats 4000000 in
set_option maxRecDepth 100000 in
theorem add_spec (gb n : Nat) (st : Int) (mv : Option Nat) (L : List (ByteArray × Value)) (qv : Value) (K : Nat → ByteArray) (X : Nat → Int) (key cl sc pa : ByteArray) (la : Bool) (ex at_ : Int) (w : World) (hst : St w gb st mv L qv n 0 K X) (hn : n ≤ 65536) :
    Calls Yba.prog 28 #[.pointer (some ⟨gb, 2, none⟩), .string key, G cl sc pa la ex, T ex, T at_] w fun e w' => e = .returned (.tuple #[]) ∧
      (∃ mb q cap, GAt w' gb st (some mb) (.slice (some ⟨q, 0, none⟩) (n - old X at_ n 0 + 1) cap) ∧ MapIs str w' mb (putL (dels K L (old X at_ n 0)) key (G cl sc pa la ex)) ∧ gb < mb ∧ gb < q ∧ (∀ i, i < n - old X at_ n 0 → KeyAt w' q i (K (old X at_ n 0 + i)) (X (old X at_ n 0 + i))) ∧ KeyAt w' q (n - old X at_ n 0) key ex) ∧ Keeps w w' ∧ Below gb w w' := by
  have HS := hide hst
  have hgl := hst.1.lt
  clear hst
  unfold G
  have HV0 := hide (VAt.made w cl sc pa la ex)
  have HT0 := hide (TAt.made (w.alloc (.cells #[.string cl, .string sc, .string pa, .bool la, .int .u64 (ex % 1000000000), .int .i64 (ex / 1000000000), .pointer none] 76)) ex)
  obtain ⟨c, hc⟩ : ∃ c, c = old X at_ n 0 := ⟨_, rfl⟩
  rw [← hc]
  have hcn : c ≤ n := by rw [hc]; exact old_le X at_ n 0
  have HC := hide hc
  clear hc
  unfold T
  go_enter Yba.func28, Yba.ntmps28
  go_wp2_with fail
  have HBw := hide ((((Below.refl w.heap.size w).alloc (Nat.le_refl _) (.cells #[.string cl, .string sc, .string pa, .bool la, .int .u64 (ex % 1000000000), .int .i64 (ex / 1000000000), .pointer none] 76)).alloc (by simp) (.cells #[.int .u64 (ex % 1000000000), .int .i64 (ex / 1000000000), .pointer none] 56)).alloc (by simp; omega) (.cells #[.int .u64 (at_ % 1000000000), .int .i64 (at_ / 1000000000), .pointer none] 56))
  have HV1 := hide (World.rowIs.alloc (World.rowIs.alloc HV0.out (.cells #[.int .u64 (ex % 1000000000), .int .i64 (ex / 1000000000), .pointer none] 56)) (.cells #[.int .u64 (at_ % 1000000000), .int .i64 (at_ / 1000000000), .pointer none] 56))
  have HT1 := hide (World.rowIs.alloc HT0.out (.cells #[.int .u64 (at_ % 1000000000), .int .i64 (at_ / 1000000000), .pointer none] 56))
  have hsz : ∀ o, (w.alloc o).heap.size = w.heap.size + 1 := fun o => by simp
  rw [hsz] at HT1
  clear HV0 HT0
  refine (forget_spec gb n st mv L qv K X at_ _ (HS.out.below HBw.out (Nat.le_refl _)) hn).mono ?_
  rintro e w1 ⟨rfl, ⟨qv1, hst1⟩, hk1, hb1⟩
  rw [← HC.out] at hst1
  have hv := hk1 _ _ _ _ HV1.out (by decide) (by decide)
  have ht := hk1 _ _ _ _ HT1.out (by decide) (by decide)
  have hB1 : Below gb w w1 := (HBw.out.mono (Nat.le_of_lt hgl)).trans hb1
  have HKp := hide ((Keeps.of_below HBw.out (Nat.le_refl _)).trans hk1)
  clear HV1 HT1 hk1 hb1 HBw HS
  obtain ⟨hg1, hm1, hq1⟩ := hst1
  obtain ⟨_, _, g2, g3⟩ := hg1.cells
  have f2 := hg1.frozen 2
  have gl := hg1.lt
  have f3 := hg1.frozen 3
  have vl := World.rowIs.lt hv
  obtain ⟨v0, v1, v2, v3, v4, v5, v6⟩ := VAt.cells hv
  obtain ⟨t0, t1, t2⟩ := TAt.cells ht
  have tl := World.rowIs.lt ht
  have hme := fun w r => run_eql_map_nil (P := Yba.prog) w 65 9 76 r Yba.underlying65
  rcases hm1 with ⟨rfl, hL0⟩ | ⟨mb, rfl, hm, hgm⟩
  · have hmk := fun w => run_makeMap (P := Yba.prog) 65 w
    have HG := hide hg1
    have HQ := hide hq1
    have HB := hide hB1
    have HV := hide hv
    have HT := hide ht
    clear hg1 hq1 hB1 hv ht
    go_wp2_with fail
    have hgm : gb < w1.heap.size := gl
    have hsz : (w1.setCell ⟨gb, 2, none⟩ (.map (some w1.heap.size))).heap.size = w1.heap.size := by simp [World.setCell]
    have HM2 := hide (show MapIs str ((w1.setCell ⟨gb, 2, none⟩ (.map (some w1.heap.size))).alloc (.map #[] 0)) w1.heap.size (dels K L c) from by rw [hL0]; have := MapIs.made (enc := str) (w1.setCell ⟨gb, 2, none⟩ (.map (some w1.heap.size))); rw [hsz] at this; exact this)
    have hne : ∀ {b t m f}, w1.rowIs b t m f → t ≠ 70 → ((w1.setCell ⟨gb, 2, none⟩ (.map (some w1.heap.size))).alloc (.map #[] 0)).rowIs b t m f := fun {b t m f} hr ht => World.rowIs.alloc (World.rowIs.of_block hr (blk_set_other w1 ⟨gb, 2, none⟩ _ b (ne_row_row (b' := gb) (t' := 70) (n' := 4) hr HG.out ht))) _
    have HG2 := hide ((HG.out.setMap (some w1.heap.size)).of_block (w' := (w1.setCell ⟨gb, 2, none⟩ (.map (some w1.heap.size))).alloc (.map #[] 0)) (heap_alloc_old _ _ (by rw [hsz]; exact gl)))
    have HQ2 := hide ((HQ.out.setG 2 (.map (some w1.heap.size))).of_blocks (w' := (w1.setCell ⟨gb, 2, none⟩ (.map (some w1.heap.size))).alloc (.map #[] 0)) fun b f hr => heap_alloc_old _ _ hr.lt)
    have HV2 := hide (hne HV.out (by decide))
    have HT2 := hide (hne HT.out (by decide))
    have HKq := hide (HKp.out.trans (show Keeps w1 ((w1.setCell ⟨gb, 2, none⟩ (.map (some w1.heap.size))).alloc (.map #[] 0)) from fun b t m f r h70 _ => hne r h70))
    have HB2 := hide ((HB.out.setCell (p := ⟨gb, 2, none⟩) (Nat.le_refl _) (.map (some w1.heap.size))).alloc (by rw [hsz]; exact Nat.le_of_lt gl) (.map #[] 0))
    clear hne HG HQ HB HV HT v0 v1 v2 v3 v4 v5 v6 t0 t1 t2 g2 g3 f2 f3 vl tl gl hsz
    generalize (w1.setCell ⟨gb, 2, none⟩ (.map (some w1.heap.size))).alloc (.map #[] 0) = w2 at *
    obtain ⟨mb, hmb⟩ : ∃ mb, mb = w1.heap.size := ⟨_, rfl⟩
    rw [← hmb] at *
    have HG := HG2
    have HM := HM2
    have HQ := HQ2
    have HV := HV2
    have HT := HT2
    have HB := HB2
    clear HG2 HM2 HQ2 HV2 HT2 HB2 hmb
    obtain ⟨_, _, g2, g3⟩ := HG.out.cells
    have f2 := HG.out.frozen 2
    have f3 := HG.out.frozen 3
    have gl := HG.out.lt
    have vl := World.rowIs.lt HV.out
    obtain ⟨v0, v1, v2, v3, v4, v5, v6⟩ := VAt.cells HV.out
    obtain ⟨t0, t1, t2⟩ := TAt.cells HT.out
    have tl := World.rowIs.lt HT.out
    obtain ⟨w3, hupd, hm3, ht3⟩ := (HM.out.of_block (w' := w2.drew) rfl).update Yba.underlying65 (decides_str _ _ key) (bits_str key) (.agg #[.string cl, .string sc, .string pa, .bool la, .int .u64 (ex % 1000000000), .int .i64 (ex / 1000000000), .pointer none])
    have HM3 := hide hm3
    have bg : w3.heap[gb]? = w2.heap[gb]? := ht3.block gb (by omega)
    have HG3 := hide (HG.out.of_block bg)
    have HQ3 := hide (HQ.out.of_blocks (w' := w3) fun b f hr => ht3.block b (ne_map_row HM.out hr))
    have HT3 := hide (World.rowIs.of_block HT.out (ht3.block _ (ne_map_row HM.out HT.out)))
    have hb3 := ht3.below (B := gb) (by omega)
    have HK3 := hide (HKq.out.trans (show Keeps w2 w3 from fun b t m f r _ _ => r.of_block (ht3.block b (ne_map_row HM.out r))))
    have HB3 := hide (HB.out.trans (show Below gb w2 w3 from ⟨hb3.os, hb3.tape, hb3.output, hb3.size, hb3.block⟩))
    clear HM HG HQ HT HB HV hm3 ht3 hb3 bg
    go_region
    clear hupd v0 v1 v2 v3 v4 v5 v6 t0 t1 t2 g2 g3 f2 f3 vl tl gl
    obtain ⟨_, _, g2, g3⟩ := HG3.out.cells
    have f3 := HG3.out.frozen 3
    have gl := HG3.out.lt
    obtain ⟨t0, t1, t2⟩ := TAt.cells HT3.out
    have tl := World.rowIs.lt HT3.out
    obtain ⟨ao, rfl, hao, hol⟩ := HQ3.out.olds
    obtain ⟨j0, ji, jz0, jz1, jz2⟩ := info_parts Yba.info74
    have HOL := hide hol
    clear hol HQ3
    go_wp2_with fail
    go_region_law
      ((refine step_append_grows (by rfl) _ _ _ (by rfl) 74 j0 _ 4 40 Yba.underlying66 ji jz0 jz1 jz2 rfl (by omega) ao (n - c) (n - c) (olds K X c (n - c)) (by rfl) hao (by simp [olds]) (fun b hb i u hu => cell_alloc_keep (HOL.out b hb i u hu) _)
          ⟨w3.heap.size, 0, none⟩ 1 1 (news key ex) (by rfl) (by rfl) (World.news_of_block (cs := #[.string key, .int .u64 (ex % 1000000000), .int .i64 (ex / 1000000000), .pointer none]) (t := 74) (fr := (0, 0)) (heap_alloc_new w3 _)) (by simp [news, Value.oneCell']) (by omega) (by unfold maxLen; omega) (by omega) ?_; intro v5 w5 hown hgrow; obtain ⟨q, cap, rfl, hq, hks, hkn⟩ := new_keys hown; have HO5 := hide (add_close (cap := cap) HG3.out HM3.out hgm HB3.out HK3.out hgrow hq hks hkn); have d3 := (hgrow.cell_far ⟨gb, 3, none⟩ (by simp; omega) (by simp)).trans (cell_alloc_keep g3 _); have y3 : w5.frozen? ⟨gb, 3, none⟩ = false := (hgrow.frozen_far ⟨gb, 3, none⟩ (by simp; omega) (by simp)).trans (frozen_alloc_keep f3 gl _); clear hown hgrow hks hkn))
    all_goals
      go_wp2
      go_end0
      exact ⟨rfl, HO5.out.1, HO5.out.2.1, HO5.out.2.2⟩
  · have HG := hide hg1
    have HQ := hide hq1
    have HM := hide hm
    have HB := hide hB1
    have HV := hide hv
    have HT := hide ht
    clear hg1 hq1 hm hB1 hv ht
    obtain ⟨w3, hupd, hm3, ht3⟩ := (HM.out.of_block (w' := w1.drew) rfl).update Yba.underlying65 (decides_str _ _ key) (bits_str key) (.agg #[.string cl, .string sc, .string pa, .bool la, .int .u64 (ex % 1000000000), .int .i64 (ex / 1000000000), .pointer none])
    have HM3 := hide hm3
    have bg : w3.heap[gb]? = w1.heap[gb]? := ht3.block gb (by omega)
    have HG3 := hide (HG.out.of_block bg)
    have HQ3 := hide (HQ.out.of_blocks (w' := w3) fun b f hr => ht3.block b (ne_map_row HM.out hr))
    have HT3 := hide (World.rowIs.of_block HT.out (ht3.block _ (ne_map_row HM.out HT.out)))
    have hb3 := ht3.below (B := gb) (by omega)
    have HK3 := hide (HKp.out.trans (show Keeps w1 w3 from fun b t m f r _ _ => r.of_block (ht3.block b (ne_map_row HM.out r))))
    have HB3 := hide (HB.out.trans (show Below gb w1 w3 from ⟨hb3.os, hb3.tape, hb3.output, hb3.size, hb3.block⟩))
    clear HM HG HQ HT HB HV hm3 ht3 hb3 bg
    go_wp2_with fail
    go_region
    clear hupd v0 v1 v2 v3 v4 v5 v6 t0 t1 t2 g2 g3 f2 f3 vl tl gl
    obtain ⟨_, _, g2, g3⟩ := HG3.out.cells
    have f3 := HG3.out.frozen 3
    have gl := HG3.out.lt
    obtain ⟨t0, t1, t2⟩ := TAt.cells HT3.out
    have tl := World.rowIs.lt HT3.out
    obtain ⟨ao, rfl, hao, hol⟩ := HQ3.out.olds
    obtain ⟨j0, ji, jz0, jz1, jz2⟩ := info_parts Yba.info74
    have HOL := hide hol
    clear hol HQ3
    go_wp2_with fail
    go_region_law
      ((refine step_append_grows (by rfl) _ _ _ (by rfl) 74 j0 _ 4 40 Yba.underlying66 ji jz0 jz1 jz2 rfl (by omega) ao (n - c) (n - c) (olds K X c (n - c)) (by rfl) hao (by simp [olds]) (fun b hb i u hu => cell_alloc_keep (HOL.out b hb i u hu) _)
          ⟨w3.heap.size, 0, none⟩ 1 1 (news key ex) (by rfl) (by rfl) (World.news_of_block (cs := #[.string key, .int .u64 (ex % 1000000000), .int .i64 (ex / 1000000000), .pointer none]) (t := 74) (fr := (0, 0)) (heap_alloc_new w3 _)) (by simp [news, Value.oneCell']) (by omega) (by unfold maxLen; omega) (by omega) ?_; intro v5 w5 hown hgrow; obtain ⟨q, cap, rfl, hq, hks, hkn⟩ := new_keys hown; have HO5 := hide (add_close (cap := cap) HG3.out HM3.out hgm HB3.out HK3.out hgrow hq hks hkn); have d3 := (hgrow.cell_far ⟨gb, 3, none⟩ (by simp; omega) (by simp)).trans (cell_alloc_keep g3 _); have y3 : w5.frozen? ⟨gb, 3, none⟩ = false := (hgrow.frozen_far ⟨gb, 3, none⟩ (by simp; omega) (by simp)).trans (frozen_alloc_keep f3 gl _); clear hown hgrow hks hkn))
    all_goals
      go_wp2
      go_end0
      exact ⟨rfl, HO5.out.1, HO5.out.2.1, HO5.out.2.2⟩
end Go.Proofs.Ybulkdwhm
