import Derived.WalkKit
import Derived.WalkSpells
import Derived.WalkLawsBesides
import Derived.Deep.OwnRows
import Derived.Deep.QuietTactic
import Derived.BigQuiet
import Derived.Deep.AppendLies
import Derived.Laws.AppendOwnNone
import Derived.LaidEqlPtr
namespace Go.Proofs.Ybulkdwhm
open Go.RowKit

theorem hide {p : Prop} (h : p) : Hid p := h

theorem cell_lt {w : World} {a : Addr} {v : Value} (h : w.cell? a = some v) : a.block < w.heap.size := by
  unfold World.cell? at h
  rcases Nat.lt_or_ge a.block w.heap.size with h1 | h1
  · exact h1
  · rw [Array.getElem?_eq_none h1] at h
    simp at h

/-- The first n cells from the slice's address hold the numbers Z. -/
def NumAt (k : IntKind) (w : World) (a : Option Addr) (n : Nat) (Z : Nat → Int) : Prop :=
  ∀ i, i < n → ∃ b off, a = some ⟨b, off, none⟩ ∧ w.cell? ⟨b, off + i, none⟩ = some (.int k (Z i))

theorem NumAt.below {k : IntKind} {w w' : World} {a : Option Addr} {n : Nat} {Z : Nat → Int} (h : NumAt k w a n Z) {B : Nat} (hb : Below B w w') (hB : w.heap.size ≤ B) : NumAt k w' a n Z := by
  intro i hi
  obtain ⟨b, off, rfl, h0⟩ := h i hi
  exact ⟨b, off, rfl, (hb.cell (Nat.lt_of_lt_of_le (cell_lt h0) hB)).trans h0⟩

theorem NumAt.congr {k : IntKind} {w : World} {a : Option Addr} {n : Nat} {Z Y : Nat → Int} (h : NumAt k w a n Z) (e : ∀ i, i < n → Z i = Y i) : NumAt k w a n Y := by
  intro i hi
  rw [← e i hi]
  exact h i hi

theorem below_drewN (B : Nat) (w : World) (m : Nat) : Below B w (w.drewN m) := ⟨rfl, rfl, rfl, Nat.le_refl _, fun _ _ => rfl⟩

/-- The numbers as cells. -/
def nums (k : IntKind) (Z : Nat → Int) (n : Nat) : List Value := (List.range n).map fun i => .int k (Z i)
theorem nums_length (k : IntKind) (Z : Nat → Int) (n : Nat) : (nums k Z n).length = n := by simp [nums]
theorem nums_get {k : IntKind} {Z : Nat → Int} {n j : Nat} {u : Value} (h : (nums k Z n)[j]? = some u) : j < n ∧ u = .int k (Z j) := by
  simp only [nums, List.getElem?_map, Option.map_eq_some_iff] at h
  obtain ⟨x, hx, rfl⟩ := h
  obtain ⟨h1, h2⟩ := List.getElem?_eq_some_iff.1 hx
  simp at h1 h2
  subst h2
  exact ⟨h1, rfl⟩
theorem nums_one (k : IntKind) (Z : Nat → Int) (n : Nat) : ∀ u ∈ nums k Z n, u.oneCell' = true := by
  intro u hu
  simp only [nums, List.mem_map] at hu
  obtain ⟨j, _, rfl⟩ := hu
  rfl
theorem nums_append (k : IntKind) (Z Y : Nat → Int) (n m : Nat) : nums k Z n ++ nums k Y m = nums k (fun i => if i < n then Z i else Y (i - n)) (n + m) := by
  simp only [nums, List.range_add, List.map_append, List.map_map]
  congr 1
  · refine List.map_congr_left fun i hi => ?_
    simp [List.mem_range.1 hi]
  · refine List.map_congr_left fun i _ => ?_
    simp [show ¬ (n + i < n) from by omega]
theorem nums_congr {k : IntKind} {Z Y : Nat → Int} {n : Nat} (h : ∀ i, i < n → Z i = Y i) : nums k Z n = nums k Y n :=
  List.map_congr_left fun i hi => by rw [h i (List.mem_range.1 hi)]

/-- What a slice of the call's own holds. -/
theorem NumAt.of_owned {k : IntKind} {w : World} {base : Nat} {e : TypeId} {v : Value} {n : Nat} {Z : Nat → Int} (h : w.ownsRow base e 1 v n (nums k Z n)) :
    ∃ a c, v = .slice a n c ∧ (a = none → n = 0 ∧ c = 0) ∧ n ≤ c ∧ c ≤ maxLen ∧ (∀ x, a = some x → ∃ g, x = ⟨g, 0, none⟩ ∧ base ≤ g ∧ ∃ cur, w.heap[g]? = some (.cells cur e (0, 0)) ∧ cur.size = c) ∧ NumAt k w a n Z := by
  obtain ⟨_, ⟨rfl, rfl⟩ | ⟨g, cap, cur, rfl, hg, hh, hnc, hcm, hcs, htake⟩⟩ := h
  · exact ⟨none, 0, rfl, fun _ => ⟨rfl, rfl⟩, Nat.le_refl _, Nat.zero_le _, fun x hx => (by cases hx), fun i hi => absurd hi (Nat.not_lt_zero _)⟩
  · refine ⟨some ⟨g, 0, none⟩, cap, rfl, fun h => (by cases h), hnc, hcm, fun x hx => ⟨g, (by cases hx; rfl), hg, cur, hh, by simpa using hcs⟩, fun i hi => ⟨g, 0, rfl, ?_⟩⟩
    have e1 : (cur.toList.take (n * 1))[i]? = some (.int k (Z i)) := by
      rw [htake]
      simp [nums, List.getElem?_map, List.getElem?_range hi]
    rw [Nat.mul_one, List.getElem?_take, if_pos hi] at e1
    simp [World.cell?, hh]
    simpa using e1

/-- The cells to be appended out of a slice that is read. -/
theorem NumAt.news {k : IntKind} {w : World} {x : Addr} {n : Nat} {Z : Nat → Int} (h : NumAt k w (some x) n Z) : ∀ j u, (nums k Z n)[j]? = some u → w.cell? (x.add j) = some u := by
  intro j u hu
  obtain ⟨hj, rfl⟩ := nums_get hu
  obtain ⟨b, off, e, hc⟩ := h j hj
  simp only [Option.some.injEq] at e
  subst e
  rw [show (⟨b, off, none⟩ : Addr).add j = ⟨b, off + j, none⟩ from by simp [Addr.add]]
  exact hc

/-- string(b), whatever the slice. -/
theorem run_string_of {P : Program} (w : World) (src dst e : TypeId) (hs : P.underlying src = some (.slice e)) (he : P.underlying e = some (.int .u8)) (hd : P.underlying dst = some .string) (a : Option Addr) (n c : Nat) (Z : Nat → Int) (h : NumAt .u8 w a n Z) (hnil : a = none → n = 0) :
    (convert src dst (.slice a n c)).run P w = .ok (.string (strOfNums ((List.range n).map Z))) w := by
  cases a with
  | none =>
    obtain rfl := hnil rfl
    rw [run_convert_bytes_nil w src e hs he _ _ dst hd]
    rfl
  | some x =>
    by_cases h0 : n = 0
    · subst h0
      rw [run_convert_bytes_string w src dst e _ 0 c hs he hd, run_bytesToString w x 0 c [] (by simpa using run_loadCells_list (P := P) w x [] (by simp))]
      rfl
    · obtain ⟨b, off, e1, _⟩ := h 0 (by omega)
      simp only [Option.some.injEq] at e1
      subst e1
      refine run_convert_bytes_arg w src e hs he b off n c _ (by simp) (fun i hi => ?_) dst hd
      obtain ⟨b', off', e2, hc⟩ := h i hi
      simp only [Option.some.injEq, Addr.mk.injEq, and_true] at e2
      obtain ⟨rfl, rfl⟩ := e2
      rw [hc]
      simp [List.getD, List.getElem?_map, List.getElem?_range hi]

theorem run_neq_ptr_same {P : Program} (w : World) {tp te : TypeId} {j : TypeInfo} (a : Addr) (hp : P.underlying tp = some (.pointer te)) (hte : P.info? te = some j) :
    (binOp .neq tp (.pointer (some a)) (.pointer (some a))).run P w = .ok (.bool false) w := by
  have h : ∀ d : Nat, (Op.equalIn (d + 1) tp (.pointer (some a)) (.pointer (some a))).run P w = .ok true w := fun d => by
    simp [Op.equalIn, run_underlying hp, sizeOf, typeInfo, hte, run_sameAddr_same]
  simp only [binOp]
  simp [Op.equal, Op.maxDepth, h 9999]

theorem info_of {P : Program} {t : TypeId} {i : Option Value × Nat × Nat} (h : (P.info? t).map (fun i => (i.zero, i.size, i.bytes)) = some i) : ∃ j, P.info? t = some j ∧ j.size = i.2.1 := by
  obtain ⟨j, hj, rfl⟩ := Option.map_eq_some_iff.1 h
  exact ⟨j, hj, rfl⟩

end Go.Proofs.Ybulkdwhm
