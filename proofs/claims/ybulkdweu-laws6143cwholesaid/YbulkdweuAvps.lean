import Derived.Test.YbulkdweuBytes
import Derived.Deep.AppendLies
namespace Go.Proofs.Ybulkdweu
open Go.RowKit

theorem cell_lt {w : World} {a : Addr} {v : Value} (h : w.cell? a = some v) : a.block < w.heap.size := by
  unfold World.cell? at h
  rcases Nat.lt_or_ge a.block w.heap.size with h1 | h1
  · exact h1
  · rw [Array.getElem?_eq_none h1] at h
    simp at h

/-- Block b is a plain row, nothing of it frozen. -/
def Plain (w : World) (b : Nat) : Prop := ∃ c t, w.heap[b]? = some (.cells c t (0, 0))

theorem Plain.frozen {w : World} {b : Nat} (h : Plain w b) (i : Nat) : w.frozen? ⟨b, i, none⟩ = false := by
  obtain ⟨c, t, hb⟩ := h
  simp [World.frozen?, hb]

theorem Plain.lt {w : World} {b : Nat} (h : Plain w b) : b < w.heap.size := by
  obtain ⟨c, t, hb⟩ := h
  obtain ⟨hlt, _⟩ := Array.getElem?_eq_some_iff.1 hb
  exact hlt

theorem Plain.setCell {w : World} {b : Nat} (h : Plain w b) (p : Addr) (v : Value) : Plain (w.setCell p v) b := by
  obtain ⟨c, t, hb⟩ := h
  by_cases e : b = p.block
  · subst e
    by_cases hs : p.spot.isSome = true
    · exact ⟨c, t, by simp [World.setCell, Array.getElem?_modify, hb, hs]⟩
    · exact ⟨c.setIfInBounds p.off v, t, by simp [World.setCell, Array.getElem?_modify, hb, hs]⟩
  · exact ⟨c, t, by rw [Below.heap_setCell _ _ _ _ e]; exact hb⟩

theorem Plain.below {w w' : World} {b B : Nat} (h : Plain w b) (hb : Below B w w') (hB : b < B) : Plain w' b := by
  obtain ⟨c, t, h⟩ := h
  exact ⟨c, t, (hb.block b hB).trans h⟩

/-- A ROW OF AVPs (or of the plain data they are built from): four cells each. -/
def AvpAt (w : World) (a : Option Addr) (n : Nat) (C F V : Nat → Int) (D : Nat → Value) : Prop :=
  ∀ i, i < n → ∃ b off, a = some ⟨b, off, none⟩ ∧ w.cell? ⟨b, off + i * 4, none⟩ = some (.int .u32 (C i)) ∧ w.cell? ⟨b, off + i * 4 + 1, none⟩ = some (.int .u8 (F i)) ∧
    w.cell? ⟨b, off + i * 4 + 2, none⟩ = some (.int .u32 (V i)) ∧ w.cell? ⟨b, off + i * 4 + 3, none⟩ = some (D i)

/-- r is the place of the first that p says yes to among the first n, or -1. -/
def IsFirst (p : Nat → Bool) (n : Nat) (r : Int) : Prop :=
  (r = -1 ∧ ∀ i, i < n → p i = false) ∨ ∃ k : Nat, k < n ∧ r = k ∧ p k = true ∧ ∀ i, i < k → p i = false

set_option maxHeartbeats 400000 in
theorem index1_any (c f v code : Int) (d : Value) (p : Addr) (w : World) (hp : w.cell? p = some (.int .u32 code)) (hd : ∃ x n m, d = .slice x n m) :
    Calls Yba.prog 18 #[.agg #[.int .u32 c, .int .u8 f, .int .u32 v, d], .pointer (some p)] w fun e w' => e = .returned (.bool (c == code && v == 0)) ∧ Below w.heap.size w w' := by
  obtain ⟨x, n, m, rfl⟩ := hd
  have hp2 : ∀ o, (w.alloc o).cell? p = some (.int .u32 code) := fun o => by rw [World.cell?_alloc_lt _ _ _ (cell_lt hp)]; exact hp
  by_cases h : (c == code) = true
  · go_enter Yba.func18, Yba.ntmps18
    go_wp2
    go_ret
    exact ⟨by simp [h], (Below.refl _ _).alloc (Nat.le_refl _) _⟩
  · have h' : (c == code) = false := by simpa using h
    go_enter Yba.func18, Yba.ntmps18
    go_wp2
    go_ret
    exact ⟨by simp [h'], (Below.refl _ _).alloc (Nat.le_refl _) _⟩

theorem AvpAt.below {w w' : World} {a : Option Addr} {n : Nat} {C F V : Nat → Int} {D : Nat → Value} (h : AvpAt w a n C F V D) {B : Nat} (hb : Below B w w') (hB : w.heap.size ≤ B) : AvpAt w' a n C F V D := by
  intro i hi
  obtain ⟨b, off, rfl, h0, h1, h2, h3⟩ := h i hi
  have hlt : b < B := Nat.lt_of_lt_of_le (cell_lt h0) hB
  exact ⟨b, off, rfl, (hb.cell (by exact hlt)).trans h0, (hb.cell (by exact hlt)).trans h1, (hb.cell (by exact hlt)).trans h2, (hb.cell (by exact hlt)).trans h3⟩

set_option maxHeartbeats 400000 in
theorem indexFunc_any (a : Option Addr) (n c : Nat) (C F V : Nat → Int) (D : Nat → Value) (code : Int) (p : Addr) (w : World) (hn : n ≤ 1048576) (hr : AvpAt w a n C F V D) (hp : w.cell? p = some (.int .u32 code))
    (hd : ∀ i, ∃ x n m, D i = .slice x n m) :
    Calls Yba.prog 17 #[.slice a n c, .func (Fn.func 18) #[] #[.pointer (some p)]] w fun e w' => ∃ r, e = .returned (.int .i64 r) ∧ IsFirst (fun i => C i == code && V i == 0) n r ∧ Below w.heap.size w w' := by
  go_enter Yba.func17, Yba.ntmps17
  go_wp2_with fail
  go_loopw [8] (fun i wr => ∃ k : Nat, k ≤ n ∧ i = .int .i64 k ∧ (∀ j, j < k → (C j == code && V j == 0) = false) ∧ Below w.heap.size w wr) (fun i _ => n - (intOf i).toNat)
  case atStart => exact ⟨0, Nat.zero_le _, rfl, fun j hj => absurd hj (Nat.not_lt_zero _), Below.refl _ _⟩
  case round =>
    obtain ⟨k, hk, rfl, hno, hbel⟩ := hrel
    have HN : Hid (∀ j, j < k → (C j == code && V j == 0) = false) := hno
    clear hno
    by_cases hlt : k < n
    · obtain ⟨b, off, rfl, h0, h1, h2, h3⟩ := hr.below hbel (Nat.le_refl _) k hlt
      have hp' : wr.cell? p = some (.int .u32 code) := (hbel.cell (cell_lt hp)).trans hp
      obtain ⟨x, n', m', hD⟩ := hd k
      have HD : Hid (∃ x n m, D k = .slice x n m) := hd k
      rw [hD] at h3
      clear hd hr hp
      go_wp2_with (go_at_call 18; refine (index1_any _ _ _ _ _ _ _ hp' ⟨_, _, _, rfl⟩).mono ?_; rintro e w1 ⟨rfl, hb1⟩)
      · have hh : (C k == code) = true ∧ (V k == 0) = true := by assumption
        go_ret
        exact ⟨k, rfl, .inr ⟨k, hlt, rfl, by simp [hh.1, hh.2], HN.out⟩, hbel.trans (hb1.mono hbel.size)⟩
      · have hh : (C k == code) = false ∨ (V k == 0) = false := by assumption
        go_roundw
        case rel => exact ⟨k + 1, by omega, by go_num, fun j hj => by
          by_cases e : j = k
          · subst e; rcases hh with h | h <;> simp [h]
          · exact HN.out j (by omega), hbel.trans (hb1.mono hbel.size)⟩
        case measure => simp [intOf]; omega
    · go_wp2_with fail
      go_ret
      exact ⟨-1, rfl, .inl ⟨rfl, fun i hi => HN.out i (by omega)⟩, hbel⟩

set_option maxHeartbeats 400000 in
theorem index_any (a : Option Addr) (n c : Nat) (C F V : Nat → Int) (D : Nat → Value) (code : Int) (mb : Nat) (w : World) (hn : n ≤ 1048576) (hr : AvpAt w a n C F V D) (hm : w.cell? ⟨mb, 5, none⟩ = some (.slice a n c))
    (hd : ∀ i, ∃ x n m, D i = .slice x n m) :
    Calls Yba.prog 12 #[.pointer (some ⟨mb, 0, none⟩), .int .u32 code] w fun e w' => ∃ r, e = .returned (.int .i64 r) ∧ IsFirst (fun i => C i == code && V i == 0) n r ∧ Below w.heap.size w w' := by
  have hmb : mb < w.heap.size := cell_lt hm
  have hb0 : ∀ o, Below w.heap.size w (w.alloc o) := fun o => (Below.refl _ _).alloc (Nat.le_refl _) _
  go_enter Yba.func12, Yba.ntmps12
  go_wp2_with fail
  refine (indexFunc_any a n c C F V D code _ _ hn (hr.below (hb0 _) (Nat.le_refl _)) (by simp) hd).mono ?_
  rintro e w1 ⟨r, rfl, hf, hb1⟩
  go_wp2_with fail
  go_ret
  exact ⟨r, rfl, hf, (hb0 _).trans (hb1.mono (by simp))⟩

/-- The cells of a row of AVPs, one after another. -/
def avpCell (C F V : Nat → Int) (D : Nat → Value) (j : Nat) : Value :=
  if j % 4 = 0 then .int .u32 (C (j / 4)) else if j % 4 = 1 then .int .u8 (F (j / 4)) else if j % 4 = 2 then .int .u32 (V (j / 4)) else D (j / 4)

theorem AvpAt.flat {w : World} {b off n : Nat} {C F V : Nat → Int} {D : Nat → Value} (h : AvpAt w (some ⟨b, off, none⟩) n C F V D) (j : Nat) (hj : j < n * 4) : w.cell? ⟨b, off + j, none⟩ = some (avpCell C F V D j) := by
  obtain ⟨b', off', e, h0, h1, h2, h3⟩ := h (j / 4) (by omega)
  simp only [Option.some.injEq, Addr.mk.injEq, and_true] at e
  obtain ⟨rfl, rfl⟩ := e
  unfold avpCell
  rcases (show j % 4 = 0 ∨ j % 4 = 1 ∨ j % 4 = 2 ∨ j % 4 = 3 from by omega) with e | e | e | e
  · rw [if_pos e, show off + j = off + j / 4 * 4 from by omega]; exact h0
  · rw [if_neg (by omega), if_pos e, show off + j = off + j / 4 * 4 + 1 from by omega]; exact h1
  · rw [if_neg (by omega), if_neg (by omega), if_pos e, show off + j = off + j / 4 * 4 + 2 from by omega]; exact h2
  · rw [if_neg (by omega), if_neg (by omega), if_neg (by omega), show off + j = off + j / 4 * 4 + 3 from by omega]; exact h3

theorem AvpAt.of_flat {w : World} {b off n : Nat} {C F V : Nat → Int} {D : Nat → Value} (h : ∀ j, j < n * 4 → w.cell? ⟨b, off + j, none⟩ = some (avpCell C F V D j)) : AvpAt w (some ⟨b, off, none⟩) n C F V D := by
  intro i hi
  refine ⟨b, off, rfl, ?_, ?_, ?_, ?_⟩
  · rw [h (i * 4) (by omega)]; unfold avpCell; rw [if_pos (by omega), show i * 4 / 4 = i from by omega]
  · rw [Nat.add_assoc, h (i * 4 + 1) (by omega)]; unfold avpCell; rw [if_neg (by omega), if_pos (by omega), show (i * 4 + 1) / 4 = i from by omega]
  · rw [Nat.add_assoc, h (i * 4 + 2) (by omega)]; unfold avpCell; rw [if_neg (by omega), if_neg (by omega), if_pos (by omega), show (i * 4 + 2) / 4 = i from by omega]
  · rw [Nat.add_assoc, h (i * 4 + 3) (by omega)]; unfold avpCell; rw [if_neg (by omega), if_neg (by omega), if_neg (by omega), show (i * 4 + 3) / 4 = i from by omega]

theorem Yba.info31 : (Yba.prog.info? 31).map (fun i => (i.zero, i.size, i.bytes)) = some (some (.agg #[.int .u32 0, .int .u8 0, .int .u32 0, .slice none 0 0]), 4, 40) := by kernel_rfl

def avpList (C F V : Nat → Int) (D : Nat → Value) (n : Nat) : List Value := (List.range (n * 4)).map (avpCell C F V D)
theorem avpList_len (C F V : Nat → Int) (D : Nat → Value) (n : Nat) : (avpList C F V D n).length = n * 4 := by simp [avpList]
theorem avpList_get {C F V : Nat → Int} {D : Nat → Value} {n j : Nat} {u : Value} (h : (avpList C F V D n)[j]? = some u) : j < n * 4 ∧ u = avpCell C F V D j := by
  simp only [avpList, List.getElem?_map, Option.map_eq_some_iff] at h
  obtain ⟨x, hx, rfl⟩ := h
  obtain ⟨h1, h2⟩ := List.getElem?_eq_some_iff.1 hx
  simp at h1 h2
  subst h2
  exact ⟨h1, rfl⟩

theorem avpList_one {C F V : Nat → Int} {D : Nat → Value} {n : Nat} (hd : ∀ i, ∃ x n m, D i = .slice x n m) : ∀ u ∈ avpList C F V D n, u.oneCell' = true := by
  intro u hu
  simp only [avpList, List.mem_map] at hu
  obtain ⟨j, _, rfl⟩ := hu
  unfold avpCell
  obtain ⟨x, n', m', e⟩ := hd (j / 4)
  rw [e]
  split
  · rfl
  · split
    · rfl
    · split <;> rfl

theorem owned_avps {w : World} {base g n cap : Nat} {C F V : Nat → Int} {D : Nat → Value} (h : w.ownsRow base 31 4 (.slice (some ⟨g, 0, none⟩) n cap) n (avpList C F V D n)) :
    base ≤ g ∧ AvpAt w (some ⟨g, 0, none⟩) n C F V D ∧ Plain w g := by
  obtain ⟨_, h | ⟨g', cap', cur, hv, hg, hh, _, _, hcs, htake⟩⟩ := h
  · simp at h
  simp at hv
  obtain ⟨rfl, rfl⟩ := hv
  refine ⟨hg, AvpAt.of_flat fun j hj => ?_, ⟨_, _, hh⟩⟩
  have e1 : (cur.toList.take (n * 4))[j]? = some (avpCell C F V D j) := by
    rw [htake]
    simp [avpList, List.getElem?_map, List.getElem?_range hj]
  rw [List.getElem?_take, if_pos hj] at e1
  simp [World.cell?, hh]
  simpa using e1

/-- slices.Clone of a row that is not empty. -/
theorem sclone_any (b off n c : Nat) (C F V : Nat → Int) (D : Nat → Value) (w : World) (hn : n ≤ 1048576) (hn0 : 0 < n) (hr : AvpAt w (some ⟨b, off, none⟩) n C F V D) (hd : ∀ i, ∃ x n m, D i = .slice x n m) :
    Calls Yba.prog 13 #[.slice (some ⟨b, off, none⟩) n c] w fun e w' => ∃ g cap, e = .returned (.slice (some ⟨g, 0, none⟩) n cap) ∧ w.heap.size ≤ g ∧ AvpAt w' (some ⟨g, 0, none⟩) n C F V D ∧ Plain w' g ∧ Below w.heap.size w w' := by
  have hnl := fun w a l c => Lib.run_eql_slice_nil (P := Yba.prog) w 27 31 a l c 0 0 Yba.underlying27
  obtain ⟨i0, hi, hz0, hz1, hz2⟩ := info_parts Yba.info31
  have hown0 : (w.alloc (.cells #[] 31)).ownsRow w.heap.size 31 4 (.slice (some ⟨w.heap.size, 0, none⟩) 0 0) 0 [] :=
    ⟨rfl, .inr ⟨w.heap.size, 0, #[], rfl, Nat.le_refl _, heap_alloc_new w _, Nat.le_refl _, Nat.zero_le _, rfl, rfl⟩⟩
  have hnews : ∀ j u, (avpList C F V D n)[j]? = some u → (w.alloc (.cells #[] 31)).cell? ((⟨b, off, none⟩ : Addr).add j) = some u := by
    intro j u hu
    obtain ⟨hj, rfl⟩ := avpList_get hu
    have hc := hr.flat j hj
    rw [show (⟨b, off, none⟩ : Addr).add j = ⟨b, off + j, none⟩ from by simp [Addr.add], World.cell?_alloc_lt _ _ _ (cell_lt hc)]
    exact hc
  have h1 := avpList_one (C := C) (F := F) (V := V) (n := n) hd
  have HR : Hid (AvpAt w (some ⟨b, off, none⟩) n C F V D) := hr
  have HD : Hid (∀ i, ∃ x n m, D i = .slice x n m) := hd
  have HN : Hid (∀ j u, (avpList C F V D n)[j]? = some u → (w.alloc (.cells #[] 31)).cell? ((⟨b, off, none⟩ : Addr).add j) = some u) := hnews
  have H1 : Hid (∀ u ∈ avpList C F V D n, u.oneCell' = true) := h1
  clear hr hd hnews h1
  go_enter Yba.func13, Yba.ntmps13
  go_wp2_with (at_builtin; refine wpList_append_lies _ rfl (.tmp 5) (.tmp 6) 27 rfl w.heap.size 31 i0 (.agg #[.int .u32 0, .int .u8 0, .int .u32 0, .slice none 0 0]) 4 40 Yba.underlying27 hi hz0 hz1 hz2 rfl (by omega) (.slice (some ⟨w.heap.size, 0, none⟩) 0 0) 0 [] rfl hown0 ⟨b, off, none⟩ n c (avpList C F V D n) rfl (avpList_len _ _ _ _ _) HN.out H1.out hn0 (by unfold maxLen; omega) (by omega) (by simp) (w.heap.size + 1) (by simp) ?_; intro g cap w1 hown hgrow hat hlt)
  simp only [Nat.zero_add, List.nil_append] at hown
  obtain ⟨q1, q2, q3⟩ := owned_avps hown
  have qb : Below w.heap.size w w1 := ((Below.refl _ w).alloc (Nat.le_refl _) _).grown hgrow (by simp) (fun k hk => by simp [Value.ownBlock] at hk; omega)
  clear hown hgrow hat hown0
  go_ret
  exact ⟨g, cap, rfl, q1, q2, q3, qb⟩
end Go.Proofs.Ybulkdweu
