import Derived.Test.YbulkdweuParts
import Derived.Deep.LoopGhost
import Derived.Deep.DeepCutAuto
import Derived.Deep.RegionHeld3
import Derived.Deep.Light
namespace Go.Proofs.Ybulkdweu
open Go.RowKit

theorem hide {p : Prop} (h : p) : Hid p := h

def sumTo (f : Nat → Nat) : Nat → Nat
  | 0 => 0
  | n + 1 => sumTo f n + f n

theorem le_sumTo (f : Nat → Nat) : ∀ n i, i < n → f i ≤ sumTo f n
  | n + 1, i, h => by
    unfold sumTo
    by_cases e : i = n
    · subst e; omega
    · have := le_sumTo f n i (by omega); omega

/-- What make([]AVP, n) lays. -/
def avpZero (n : Nat) : Array Value := madeCells #[.int .u32 0, .int .u8 0, .int .u32 0, .slice none 0 0] (n * 4)

theorem run_make_avps (n : Nat) (hn : n ≤ 1048576) (w : World) :
    (Instr.makeSlice 27 (.int .i64 (n : Int)) (.int .i64 (n : Int))).run Yba.prog w = .ok (.slice (some ⟨w.heap.size, 0, none⟩) n n) (w.alloc (.cells (avpZero n) 31)) := by
  obtain ⟨i0, hi, hz0, hz1, hz2⟩ := info_parts Yba.info31
  have h := run_make (P := Yba.prog) w 27 31 i0 _ Yba.underlying27 hi hz0 .i64 .i64 n n (by omega) (by omega) (by rw [hz2]; omega) (by omega)
  rw [hz1] at h
  simp only [Int.toNat_natCast] at h
  exact h

theorem rowIs_avpZero (n : Nat) (w : World) : ∃ f, (w.alloc (.cells (avpZero n) 31)).rowIs w.heap.size 31 (n * 4) f := by
  have hs : (avpZero n).size = n * 4 := by simp [avpZero, size_madeCells]
  refine ⟨fun i => (avpZero n).getD i undef, ?_⟩
  rw [← hs]
  exact World.rowIs_alloc w (avpZero n) 31 _ (fun i hi => by simp [hi])

/-- The first k AVPs of block g are built; the bytes lie in blocks from lo on. -/
def Filled (w : World) (lo g n k : Nat) (C F V : Nat → Int) (dN : Nat → Nat) (nl : Nat → Bool) (Z : Nat → Nat → Int) : Prop :=
  ∃ (f : Nat → Value) (DA : Nat → Option Addr), w.rowIs g 31 (n * 4) f ∧ (∀ j, j < k * 4 → f j = avpCell C F V (fun i => .slice (DA i) (dN i) (dN i)) j) ∧ ∀ i, i < k → (DA i).isNone = nl i ∧ ByteAt w (DA i) (dN i) (Z i) ∧ ∀ x, DA i = some x → lo ≤ x.block

theorem Filled.below {w w' : World} {lo g n k : Nat} {C F V : Nat → Int} {dN : Nat → Nat} {nl : Nat → Bool} {Z : Nat → Nat → Int} (h : Filled w lo g n k C F V dN nl Z) {B : Nat} (hb : Below B w w') (hB : w.heap.size ≤ B) : Filled w' lo g n k C F V dN nl Z := by
  obtain ⟨f, DA, h1, h2, h3⟩ := h
  exact ⟨f, DA, h1.of_block (hb.block _ (Nat.lt_of_lt_of_le h1.lt hB)), h2, fun i hi => ⟨(h3 i hi).1, (h3 i hi).2.1.below hb hB, (h3 i hi).2.2⟩⟩

theorem Filled.built {w : World} {lo g n : Nat} {C F V : Nat → Int} {dN : Nat → Nat} {nl : Nat → Bool} {Z : Nat → Nat → Int} (h : Filled w lo g n n C F V dN nl Z) : ∃ DA, Built w (some ⟨g, 0, none⟩) n C F V dN nl Z DA := by
  obtain ⟨f, DA, h1, h2, h3⟩ := h
  exact ⟨DA, AvpAt.of_flat fun j hj => by rw [Nat.zero_add, h1.cell hj, h2 j hj], fun i hi => ⟨(h3 i hi).1, (h3 i hi).2.1⟩⟩

theorem ByteAt.setOther {w : World} {a : Option Addr} {n : Nat} {Z : Nat → Int} (h : ByteAt w a n Z) {p : Addr} (hp : ∀ x, a = some x → x.block ≠ p.block) (v : Value) : ByteAt (w.setCell p v) a n Z := by
  intro i hi
  obtain ⟨b, off, rfl, h0⟩ := h i hi
  exact ⟨b, off, rfl, by rw [World.cell?_setCell_other _ _ _ _ (fun e => hp _ rfl (by rw [e]))]; exact h0⟩

/-- A store into another row. -/
theorem Filled.setOther {w : World} {lo g n k : Nat} {C F V : Nat → Int} {dN : Nat → Nat} {nl : Nat → Bool} {Z : Nat → Nat → Int} (h : Filled w lo g n k C F V dN nl Z) {p : Addr} (hg : g ≠ p.block) (hp : p.block < lo) (v : Value) : Filled (w.setCell p v) lo g n k C F V dN nl Z := by
  obtain ⟨f, DA, h1, h2, h3⟩ := h
  exact ⟨f, DA, h1.setOther hg v, h2, fun i hi => ⟨(h3 i hi).1, (h3 i hi).2.1.setOther (fun x hx e => by have := (h3 i hi).2.2 x hx; omega) v, (h3 i hi).2.2⟩⟩

/-- AVP k stored. -/
theorem Filled.step {w w1 : World} {lo g n k : Nat} {C F V : Nat → Int} {dN : Nat → Nat} {nl : Nat → Bool} {Z : Nat → Nat → Int} (h : Filled w lo g n k C F V dN nl Z) (hb : Below w.heap.size w w1) (hk : k < n) (hg : g < lo) {a1 : Option Addr} (ha : a1.isNone = nl k) (hy : ByteAt w1 a1 (dN k) (Z k))
    (hx : ∀ x, a1 = some x → lo ≤ x.block) :
    Filled ((((w1.setCell ⟨g, k * 4, none⟩ (.int .u32 (C k))).setCell ⟨g, k * 4 + 1, none⟩ (.int .u8 (F k))).setCell ⟨g, k * 4 + 2, none⟩ (.int .u32 (V k))).setCell ⟨g, k * 4 + 3, none⟩ (.slice a1 (dN k) (dN k))) lo g n (k + 1) C F V dN nl Z := by
  obtain ⟨f, DA, h1, h2, h3⟩ := h.below hb (Nat.le_refl _)
  refine ⟨_, fun i => if i = k then a1 else DA i, (((h1.set _ _).set _ _).set _ _).set _ _, ?_, ?_⟩
  · intro j hj
    unfold avpCell
    rcases (show j < k * 4 ∨ j = k * 4 ∨ j = k * 4 + 1 ∨ j = k * 4 + 2 ∨ j = k * 4 + 3 from by omega) with e | e | e | e | e
    · have e4 : ¬ (j / 4 = k) := by omega
      simp only [if_neg (show ¬ j = k * 4 + 3 from by omega), if_neg (show ¬ j = k * 4 + 2 from by omega), if_neg (show ¬ j = k * 4 + 1 from by omega), if_neg (show ¬ j = k * 4 from by omega), if_neg e4]
      exact h2 j e
    · subst e
      simp [show k * 4 / 4 = k from by omega]
    · subst e
      simp [show (k * 4 + 1) / 4 = k from by omega, show (k * 4 + 1) % 4 = 1 from by omega]
    · subst e
      simp [show (k * 4 + 2) / 4 = k from by omega, show (k * 4 + 2) % 4 = 2 from by omega]
    · subst e
      simp [show (k * 4 + 3) / 4 = k from by omega, show (k * 4 + 3) % 4 = 3 from by omega]
  · intro i hi
    have hset : ∀ {a : Option Addr} {m : Nat} {Y : Nat → Int}, ByteAt w1 a m Y → (∀ x, a = some x → lo ≤ x.block) → ByteAt ((((w1.setCell ⟨g, k * 4, none⟩ (.int .u32 (C k))).setCell ⟨g, k * 4 + 1, none⟩ (.int .u8 (F k))).setCell ⟨g, k * 4 + 2, none⟩ (.int .u32 (V k))).setCell ⟨g, k * 4 + 3, none⟩ (.slice a1 (dN k) (dN k))) a m Y := by
      intro a m Y hq hl
      have hne : ∀ (o : Nat) x, a = some x → x.block ≠ (⟨g, o, none⟩ : Addr).block := fun o x hx => by have := hl x hx; show x.block ≠ g; omega
      exact (((hq.setOther (hne _) _).setOther (hne _) _).setOther (hne _) _).setOther (hne _) _
    by_cases e : i = k
    · subst e
      simp only [if_pos]
      exact ⟨ha, hset hy hx, hx⟩
    · simp only [if_neg e]
      obtain ⟨q1, q2, q3⟩ := h3 i (by omega)
      exact ⟨q1, hset q2 q3, q3⟩

theorem four_below {w w1 : World} {B b o0 o1 o2 o3 : Nat} {v0 v1 v2 v3 : Value} (hb : Below B w w1) (hB : b < B) (h : w.cell? ⟨b, o0, none⟩ = some v0 ∧ w.cell? ⟨b, o1, none⟩ = some v1 ∧ w.cell? ⟨b, o2, none⟩ = some v2 ∧ w.cell? ⟨b, o3, none⟩ = some v3) :
    w1.cell? ⟨b, o0, none⟩ = some v0 ∧ w1.cell? ⟨b, o1, none⟩ = some v1 ∧ w1.cell? ⟨b, o2, none⟩ = some v2 ∧ w1.cell? ⟨b, o3, none⟩ = some v3 :=
  ⟨(hb.cell (by exact hB)).trans h.1, (hb.cell (by exact hB)).trans h.2.1, (hb.cell (by exact hB)).trans h.2.2.1, (hb.cell (by exact hB)).trans h.2.2.2⟩

theorem four_other (w : World) {g b : Nat} (hne : b ≠ g) (p0 p1 p2 p3 q : Nat) (x0 x1 x2 x3 : Value) :
    ((((w.setCell ⟨g, p0, none⟩ x0).setCell ⟨g, p1, none⟩ x1).setCell ⟨g, p2, none⟩ x2).setCell ⟨g, p3, none⟩ x3).cell? ⟨b, q, none⟩ = w.cell? ⟨b, q, none⟩ := by
  have h : ∀ o, (⟨g, o, none⟩ : Addr) ≠ ⟨b, q, none⟩ := fun o e => hne (by simpa using (congrArg Addr.block e).symm)
  rw [World.cell?_setCell_other _ _ _ _ (h _), World.cell?_setCell_other _ _ _ _ (h _), World.cell?_setCell_other _ _ _ _ (h _), World.cell?_setCell_other _ _ _ _ (h _)]

theorem four_store {w : World} {g b o0 o1 o2 o3 p0 p1 p2 p3 : Nat} {v0 v1 v2 v3 x0 x1 x2 x3 : Value} (hne : b ≠ g) (h : w.cell? ⟨b, o0, none⟩ = some v0 ∧ w.cell? ⟨b, o1, none⟩ = some v1 ∧ w.cell? ⟨b, o2, none⟩ = some v2 ∧ w.cell? ⟨b, o3, none⟩ = some v3) :
    ((((w.setCell ⟨g, p0, none⟩ x0).setCell ⟨g, p1, none⟩ x1).setCell ⟨g, p2, none⟩ x2).setCell ⟨g, p3, none⟩ x3).cell? ⟨b, o0, none⟩ = some v0 ∧ ((((w.setCell ⟨g, p0, none⟩ x0).setCell ⟨g, p1, none⟩ x1).setCell ⟨g, p2, none⟩ x2).setCell ⟨g, p3, none⟩ x3).cell? ⟨b, o1, none⟩ = some v1 ∧
    ((((w.setCell ⟨g, p0, none⟩ x0).setCell ⟨g, p1, none⟩ x1).setCell ⟨g, p2, none⟩ x2).setCell ⟨g, p3, none⟩ x3).cell? ⟨b, o2, none⟩ = some v2 ∧ ((((w.setCell ⟨g, p0, none⟩ x0).setCell ⟨g, p1, none⟩ x1).setCell ⟨g, p2, none⟩ x2).setCell ⟨g, p3, none⟩ x3).cell? ⟨b, o3, none⟩ = some v3 := by
  simp only [four_other w hne]
  exact h

theorem eight_below {w w1 : World} {B b o0 o1 o2 o3 b' p0 p1 p2 p3 : Nat} {v0 v1 v2 v3 x0 x1 x2 x3 : Value} (hb : Below B w w1) (hB : b < B) (hB' : b' < B)
    (h : w.cell? ⟨b, o0, none⟩ = some v0 ∧ w.cell? ⟨b, o1, none⟩ = some v1 ∧ w.cell? ⟨b, o2, none⟩ = some v2 ∧ w.cell? ⟨b, o3, none⟩ = some v3 ∧ w.cell? ⟨b', p0, none⟩ = some x0 ∧ w.cell? ⟨b', p1, none⟩ = some x1 ∧ w.cell? ⟨b', p2, none⟩ = some x2 ∧ w.cell? ⟨b', p3, none⟩ = some x3) :
    w1.cell? ⟨b, o0, none⟩ = some v0 ∧ w1.cell? ⟨b, o1, none⟩ = some v1 ∧ w1.cell? ⟨b, o2, none⟩ = some v2 ∧ w1.cell? ⟨b, o3, none⟩ = some v3 ∧ w1.cell? ⟨b', p0, none⟩ = some x0 ∧ w1.cell? ⟨b', p1, none⟩ = some x1 ∧ w1.cell? ⟨b', p2, none⟩ = some x2 ∧ w1.cell? ⟨b', p3, none⟩ = some x3 :=
  ⟨(hb.cell (by exact hB)).trans h.1, (hb.cell (by exact hB)).trans h.2.1, (hb.cell (by exact hB)).trans h.2.2.1, (hb.cell (by exact hB)).trans h.2.2.2.1,
    (hb.cell (by exact hB')).trans h.2.2.2.2.1, (hb.cell (by exact hB')).trans h.2.2.2.2.2.1, (hb.cell (by exact hB')).trans h.2.2.2.2.2.2.1, (hb.cell (by exact hB')).trans h.2.2.2.2.2.2.2⟩

end Go.Proofs.Ybulkdweu
