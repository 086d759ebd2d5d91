import Derived.Test.YbulkdweuSet
import Derived.LaidEqlPtr
namespace Go.Proofs.Ybulkdweu
open Go.RowKit

/-- The first n cells from the slice's address hold the bytes Z. -/
def ByteAt (w : World) (a : Option Addr) (n : Nat) (Z : Nat → Int) : Prop :=
  ∀ i, i < n → ∃ b off, a = some ⟨b, off, none⟩ ∧ w.cell? ⟨b, off + i, none⟩ = some (.int .u8 (Z i))

theorem ByteAt.below {w w' : World} {a : Option Addr} {n : Nat} {Z : Nat → Int} (h : ByteAt w a n Z) {B : Nat} (hb : Below B w w') (hB : w.heap.size ≤ B) : ByteAt w' a n Z := by
  intro i hi
  obtain ⟨b, off, rfl, h0⟩ := h i hi
  exact ⟨b, off, rfl, (hb.cell (Nat.lt_of_lt_of_le (cell_lt h0) hB)).trans h0⟩

theorem clone_any (a : Option Addr) (n c : Nat) (Z : Nat → Int) (w : World) (hnil : a = none → n = 0 ∧ c = 0) (hb : n ≤ 1048576) (hr : ByteAt w a n Z) :
    Calls Yba.prog 5 #[.slice a n c] w fun e w' => ∃ a', e = .returned (.slice a' n n) ∧ a'.isNone = a.isNone ∧ ByteAt w' a' n Z ∧ (∀ x, a' = some x → w.heap.size ≤ x.block) ∧ Below w.heap.size w w' := by
  cases a with
  | none =>
    obtain ⟨rfl, rfl⟩ := hnil rfl
    exact (clone_nil w).mono fun e w' ⟨h1, h2⟩ => ⟨none, h1, rfl, fun i hi => absurd hi (Nat.not_lt_zero _), fun x hx => (by cases hx), h2 ▸ Below.refl _ _⟩
  | some x =>
    refine (clone_some x n c Z w hb fun i hi => ?_).mono fun e w' ⟨h1, h2, h3, h4⟩ => ⟨_, h1, rfl, fun i hi => ⟨_, _, rfl, ?_⟩, fun x hx => (by cases hx; exact Nat.le_refl _), h3⟩
    · obtain ⟨b, off, e, h0⟩ := hr i hi
      simp only [Option.some.injEq] at e
      exact ⟨b, off, e, cell_lt h0, h0⟩
    · rw [Nat.zero_add]; exact h2.cell hi

theorem beq_any (a a' : Option Addr) (n c c' : Nat) (Z : Nat → Int) (w : World) (hnil : a'.isNone = a.isNone) (hb : n ≤ 1048576) (h1 : ByteAt w a n Z) (h2 : ByteAt w a' n Z) :
    Calls Yba.prog 7 #[.slice a n c, .slice a' n c'] w fun e w' => e = .returned (.bool true) ∧ ∃ m, w' = w.drewN m :=
  beq_true a a' n c c' Z w hnil hb fun i hi => by
    obtain ⟨b, off, e1, k1⟩ := h1 i hi
    obtain ⟨b', off', e2, k2⟩ := h2 i hi
    exact ⟨b, off, b', off', e1, e2, k1, k2⟩

theorem bsame_any (c f v : Int) (a a' : Option Addr) (n m m' : Nat) (Z : Nat → Int) (w : World) (hnil : a'.isNone = a.isNone) (hb : n ≤ 1048576) (h1 : ByteAt w a n Z) (h2 : ByteAt w a' n Z) :
    Calls Yba.prog 8 #[.agg #[.int .u32 c, .int .u8 f, .int .u32 v, .slice a n m], .agg #[.int .u32 c, .int .u8 f, .int .u32 v, .slice a' n m']] w fun e w' => e = .returned (.bool true) ∧ Below w.heap.size w w' :=
  bsame_true c f v a a' n m m' Z w hnil hb fun i hi => by
    obtain ⟨b, off, e1, k1⟩ := h1 i hi
    obtain ⟨b', off', e2, k2⟩ := h2 i hi
    exact ⟨b, off, b', off', e1, e2, k1, k2⟩

/-- A row of AVPs whose Data are slices that hold 'Z i' for the first 'dN i' bytes, nil where 'nl i'. -/
def Built (w : World) (la : Option Addr) (n : Nat) (C F V : Nat → Int) (dN : Nat → Nat) (nl : Nat → Bool) (Z : Nat → Nat → Int) (DA : Nat → Option Addr) : Prop :=
  AvpAt w la n C F V (fun i => .slice (DA i) (dN i) (dN i)) ∧ ∀ i, i < n → (DA i).isNone = nl i ∧ ByteAt w (DA i) (dN i) (Z i)

theorem Built.below {w w' : World} {la : Option Addr} {n : Nat} {C F V : Nat → Int} {dN : Nat → Nat} {nl : Nat → Bool} {Z : Nat → Nat → Int} {DA : Nat → Option Addr} (h : Built w la n C F V dN nl Z DA) {B : Nat} (hb : Below B w w') (hB : w.heap.size ≤ B) :
    Built w' la n C F V dN nl Z DA :=
  ⟨h.1.below hb hB, fun i hi => ⟨(h.2 i hi).1, (h.2 i hi).2.below hb hB⟩⟩

theorem below_drewN (B : Nat) (w : World) (m : Nat) : Below B w (w.drewN m) := ⟨rfl, rfl, rfl, Nat.le_refl _, fun _ _ => rfl⟩

theorem below_alloc2 (w : World) (o1 o2 : Obj) : Below w.heap.size w ((w.alloc o1).alloc o2) := ((Below.refl _ _).alloc (Nat.le_refl _) _).alloc (by simp) _

/-! Pointers compared. -/
theorem run_neq_ptr_same {P : Program} (w : World) {tp te : TypeId} {j : TypeInfo} (a : Addr) (hp : P.underlying tp = some (.pointer te)) (hte : P.info? te = some j) :
    (binOp .neq tp (.pointer (some a)) (.pointer (some a))).run P w = .ok (.bool false) w := by
  have h : ∀ d : Nat, (Op.equalIn (d + 1) tp (.pointer (some a)) (.pointer (some a))).run P w = .ok true w := fun d => by
    simp [Op.equalIn, run_underlying hp, sizeOf, typeInfo, hte, run_sameAddr_same]
  simp only [binOp]
  simp [Op.equal, Op.maxDepth, h 9999]

theorem run_eql_ptr_plain {P : Program} (w : World) {tp te : TypeId} {j : TypeInfo} {a b : Addr} (hp : P.underlying tp = some (.pointer te)) (hte : P.info? te = some j) (hsz : j.size ≠ 0) (hne : a ≠ b) (ha : Plain w a.block) (hb : Plain w b.block) :
    (binOp .eql tp (.pointer (some a)) (.pointer (some b))).run P w = .ok (.bool false) w := by
  obtain ⟨ca, ta, ha⟩ := ha
  obtain ⟨cb, tb, hb⟩ := hb
  exact run_eql_ptr_other w hp hte hsz hne ha hb

theorem info_of {P : Program} {t : TypeId} {i : Option Value × Nat × Nat} (h : (P.info? t).map (fun i => (i.zero, i.size, i.bytes)) = some i) : ∃ j, P.info? t = some j ∧ j.size = i.2.1 := by
  obtain ⟨j, hj, rfl⟩ := Option.map_eq_some_iff.1 h
  exact ⟨j, hj, rfl⟩

theorem IsFirst.uniq {p : Nat → Bool} {n : Nat} {r s : Int} (h : IsFirst p n r) (k : IsFirst p n s) : r = s := by
  rcases h with ⟨rfl, h⟩ | ⟨i, hi, rfl, hp, hq⟩ <;> rcases k with ⟨rfl, k⟩ | ⟨j, hj, rfl, kp, kq⟩
  · rfl
  · rw [h j hj] at kp; simp at kp
  · rw [k i hi] at hp; simp at hp
  · rcases Nat.lt_trichotomy i j with h1 | h1 | h1
    · rw [kq i h1] at hp; simp at hp
    · rw [h1]
    · rw [hq j h1] at kp; simp at kp

/-- What Set leaves, said in one form for both its ways. -/
theorem set_both (mb : Nat) (a : Option Addr) (n c : Nat) (C F V : Nat → Int) (dN : Nat → Nat) (DA : Nat → Option Addr) (code : Int) (da : Option Addr) (dn dc : Nat) (w : World) (hn : n ≤ 1048576) (hr : AvpAt w a n C F V (fun i => .slice (DA i) (dN i) (dN i))) (hm : w.cell? ⟨mb, 5, none⟩ = some (.slice a n c))
    (hfm : w.frozen? ⟨mb, 5, none⟩ = false) :
    Calls Yba.prog 6 #[.pointer (some ⟨mb, 0, none⟩), .int .u32 code, .slice da dn dc] w fun e w' => e = .returned (.tuple #[]) ∧ ∃ (r : Int) (ma : Option Addr) (mc : Nat), IsFirst (fun i => C i == code && V i == 0) n r ∧ w'.cell? ⟨mb, 5, none⟩ = some (.slice ma n mc) ∧
      ma.isNone = a.isNone ∧ AvpAt w' ma n C F V (fun i => if (i : Int) = r then .slice da dn dc else .slice (DA i) (dN i) (dN i)) ∧ (0 ≤ r → ∃ g, ma = some ⟨g, 0, none⟩ ∧ mb < g ∧ Plain w' g) ∧ (r < 0 → ma = a) ∧ Below mb w w' ∧ ∀ i, i ≠ 5 → w'.cell? ⟨mb, i, none⟩ = w.cell? ⟨mb, i, none⟩ := by
  have hmw : mb < w.heap.size := cell_lt hm
  refine (set_any mb a n c C F V _ code da dn dc w hn hr hm hfm fun i => ⟨_, _, _, rfl⟩).mono fun e w' ⟨he, r, hf, hh⟩ => ⟨he, ?_⟩
  rcases hh with ⟨rfl, hb⟩ | ⟨k, g, cap, hk, rfl, hg, hc, hrow, hb, hpl, hrest⟩
  · refine ⟨-1, a, c, hf, (hb.cell (by exact hmw)).trans hm, rfl, ?_, fun h => absurd h (by decide), fun _ => rfl, hb.mono (Nat.le_of_lt hmw), fun i _ => hb.cell (by exact hmw)⟩
    intro i hi
    have := hr.below hb (Nat.le_refl _) i hi
    have e : ¬ ((i : Int) = -1) := by omega
    simpa only [if_neg e] using this
  · refine ⟨k, some ⟨g, 0, none⟩, cap, hf, hc, ?_, ?_, fun _ => ⟨g, rfl, Nat.lt_of_lt_of_le hmw hg, hpl⟩, fun h => by omega, hb, hrest⟩
    · obtain ⟨b, off, rfl, _⟩ := hr k hk
      rfl
    · intro i hi
      have := hrow i hi
      by_cases e : i = k
      · subst e; simpa using this
      · have e2 : ¬ ((i : Int) = (k : Int)) := by omega
        simpa only [if_neg e, if_neg e2] using this
end Go.Proofs.Ybulkdweu
