import Derived.Test.YbulkdwhmKeep
namespace Go.Proofs.Ybulkdwhm
open Go.RowKit
set_option linter.unusedVariables false
set_option linter.unusedSimpArgs false

section
variable (K : Nat → ByteArray) (X : Nat → Int) (P : Nat → Bool) (C : Nat → ByteArray)

/-- The grant of entry i. -/
def ent (i : Nat) : Value := G (C i) ByteArray.empty ByteArray.empty false (X i)

/-- The values behind the first k entries. -/
def vL : Nat → List (ByteArray × Value)
  | 0 => []
  | k + 1 => if P k then putL (vL k) (K k) (ent X C k) else vL k
/-- lastPresent behind the first k. -/
def lL : Nat → List (ByteArray × Value)
  | 0 => []
  | k + 1 => if P k then putL (lL k) (K k) (.int .i64 (k : Nat)) else lL k
/-- removed behind the first k. -/
def rL : Nat → List (ByteArray × Value)
  | 0 => []
  | k + 1 => putL (rL k) (K k) (.bool true)

theorem vL_nodup : ∀ k, ((vL K X P C k).map (·.1)).Nodup
  | 0 => by simp [vL]
  | k + 1 => by
    unfold vL
    split
    · exact nodup_put _ _ _ (vL_nodup k)
    · exact vL_nodup k

theorem last_val : ∀ k x, (getL (lL K P k) x = none ∧ getL (vL K X P C k) x = none) ∨ ∃ j, j < k ∧ getL (lL K P k) x = some (.int .i64 (j : Nat)) ∧ getL (vL K X P C k) x = some (ent X C j)
  | 0, x => .inl ⟨rfl, rfl⟩
  | k + 1, x => by
    have ih := last_val k x
    unfold lL vL
    cases hp : P k with
    | false =>
      simp only [Bool.false_eq_true, if_false]
      rcases ih with h | ⟨j, h1, h2, h3⟩
      · exact .inl h
      · exact .inr ⟨j, by omega, h2, h3⟩
    | true =>
      simp only [if_true, getL_put]
      by_cases e : K k = x
      · exact .inr ⟨k, by omega, by simp [e], by simp [e]⟩
      · simp only [if_neg e]
        rcases ih with h | ⟨j, h1, h2, h3⟩
        · exact .inl h
        · exact .inr ⟨j, by omega, h2, h3⟩

theorem vL_keys : ∀ k x, (getL (vL K X P C k) x).isSome = true → ∃ j, j < k ∧ K j = x
  | 0, x, h => by simp [vL, getL_nil] at h
  | k + 1, x, h => by
    unfold vL at h
    split at h
    · rw [getL_put] at h
      by_cases e : K k = x
      · exact ⟨k, by omega, e⟩
      · rw [if_neg e] at h
        obtain ⟨j, h1, h2⟩ := vL_keys k x h
        exact ⟨j, by omega, h2⟩
    · obtain ⟨j, h1, h2⟩ := vL_keys k x h
      exact ⟨j, by omega, h2⟩

theorem rem_val : ∀ k x, (getL (rL K k) x = none ∧ ∀ i, i < k → K i ≠ x) ∨ (getL (rL K k) x = some (.bool true) ∧ ∃ i, i < k ∧ K i = x)
  | 0, x => .inl ⟨rfl, fun i hi => absurd hi (Nat.not_lt_zero _)⟩
  | k + 1, x => by
    unfold rL
    rw [getL_put]
    by_cases e : K k = x
    · exact .inr ⟨by simp [e], k, by omega, e⟩
    · rw [if_neg e]
      rcases rem_val k x with ⟨h1, h2⟩ | ⟨h1, i, h2, h3⟩
      · exact .inl ⟨h1, fun i hi => by by_cases e' : i = k; (subst e'; exact e); exact h2 i (by omega)⟩
      · exact .inr ⟨h1, i, by omega, h3⟩
end

theorem dels_nodup (K : Nat → ByteArray) (L : List (ByteArray × Value)) (h : (L.map (·.1)).Nodup) : ∀ j, ((dels K L j).map (·.1)).Nodup
  | 0 => h
  | j + 1 => (keys_del _ _).nodup (dels_nodup K L h j)

theorem dels_get (K : Nat → ByteArray) (L : List (ByteArray × Value)) (h : (L.map (·.1)).Nodup) (x : ByteArray) : ∀ j, ((∀ i, i < j → K i ≠ x) → getL (dels K L j) x = getL L x) ∧ ((∃ i, i < j ∧ K i = x) → getL (dels K L j) x = none)
  | 0 => ⟨fun _ => rfl, fun ⟨i, hi, _⟩ => absurd hi (Nat.not_lt_zero _)⟩
  | j + 1 => by
    have ih := dels_get K L h x j
    unfold dels
    rw [getL_del _ _ _ (dels_nodup K L h j)]
    refine ⟨fun hn => ?_, fun ⟨i, hi, he⟩ => ?_⟩
    · rw [if_neg (hn j (by omega))]
      exact ih.1 fun i hi => hn i (by omega)
    · by_cases e : K j = x
      · rw [if_pos e]
      · rw [if_neg e]
        refine ih.2 ⟨i, ?_, he⟩
        rcases (show i < j ∨ i = j from by omega) with h | h
        · exact h
        · subst h; exact absurd he e

section
variable (K : Nat → ByteArray) (X : Nat → Int) (P : Nat → Bool) (C : Nat → ByteArray) (n c : Nat) (ac : ByteArray) (g : Value)

/-- The values at the end. -/
def V : List (ByteArray × Value) := putL (dels K (vL K X P C n) c) ac g

theorem V_nodup : ((V K X P C n c ac g).map (·.1)).Nodup := nodup_put _ _ _ (dels_nodup _ _ (vL_nodup K X P C n) c)

theorem V_ac : getL (V K X P C n c ac g) ac = some g := by simp [V, getL_put]

theorem V_other {x : ByteArray} (hx : x ≠ ac) : getL (V K X P C n c ac g) x = getL (dels K (vL K X P C n) c) x := by
  rw [V, getL_put, if_neg (Ne.symm hx)]

/-- A key that is removed, or has no entry that is present. -/
theorem V_gone {x : ByteArray} (hx : x ≠ ac) (h : getL (rL K c) x = some (.bool true) ∨ getL (lL K P n) x = none) : getL (V K X P C n c ac g) x = none := by
  rw [V_other K X P C n c ac g hx]
  have hd := dels_get K (vL K X P C n) (vL_nodup K X P C n) x c
  rcases rem_val K c x with ⟨h1, h2⟩ | ⟨h1, h2⟩
  · rw [hd.1 h2]
    rcases h with h | h
    · rw [h1] at h; cases h
    · rcases last_val K X P C n x with ⟨_, h4⟩ | ⟨j, _, h4, _⟩
      · exact h4
      · rw [h] at h4; cases h4
  · exact hd.2 h2

theorem V_there {x : ByteArray} (hx : x ≠ ac) (h : getL (rL K c) x = none) {j : Nat} (hj : getL (lL K P n) x = some (.int .i64 (j : Nat))) : getL (V K X P C n c ac g) x = some (ent X C j) := by
  rw [V_other K X P C n c ac g hx]
  have hd := dels_get K (vL K X P C n) (vL_nodup K X P C n) x c
  rcases rem_val K c x with ⟨h1, h2⟩ | ⟨h1, h2⟩
  · rw [hd.1 h2]
    rcases last_val K X P C n x with ⟨h3, _⟩ | ⟨j', _, h3, h4⟩
    · rw [hj] at h3; cases h3
    · rw [hj] at h3
      have h5 : (j : Int) = (j' : Int) := by simpa using h3
      have : j = j' := by omega
      rw [this]; exact h4
  · rw [h] at h1; cases h1

/-- The candidates. -/
def D (i : Nat) : ByteArray := if i = 0 then ac else K (i - 1)

theorem V_covered {x : ByteArray} (h : (getL (V K X P C n c ac g) x).isSome = true) : ∃ j, j < n + 1 ∧ D K ac j = x := by
  by_cases e : x = ac
  · exact ⟨0, by omega, by simp [D, e]⟩
  · rw [V_other K X P C n c ac g e] at h
    have hd := dels_get K (vL K X P C n) (vL_nodup K X P C n) x c
    by_cases hr : ∃ i, i < c ∧ K i = x
    · rw [hd.2 hr] at h; simp at h
    · rw [hd.1 (fun i hi he => hr ⟨i, hi, he⟩)] at h
      obtain ⟨j, h1, h2⟩ := vL_keys K X P C n x h
      exact ⟨j + 1, by omega, by simp [D, h2]⟩
end

/-- How many keys of L are among the first k of E. -/
def seenIn (E : Nat → ByteArray) : Nat → ByteArray → Bool
  | 0, _ => false
  | k + 1, x => decide (E k = x) || seenIn E k x
theorem seenIn_iff (E : Nat → ByteArray) (x : ByteArray) : ∀ k, seenIn E k x = true ↔ ∃ j, j < k ∧ E j = x
  | 0 => by simp [seenIn]
  | k + 1 => by
    simp only [seenIn, Bool.or_eq_true, decide_eq_true_eq, seenIn_iff E x k]
    constructor
    · rintro (h | ⟨j, h1, h2⟩)
      · exact ⟨k, by omega, h⟩
      · exact ⟨j, by omega, h2⟩
    · rintro ⟨j, h1, h2⟩
      rcases (show j < k ∨ j = k from by omega) with h | h
      · exact .inr ⟨j, h, h2⟩
      · subst h; exact .inl h2

def cnt (E : Nat → ByteArray) (L : List (ByteArray × Value)) (k : Nat) : Nat := (L.filter fun p => seenIn E k p.1).length

theorem cnt_le (E : Nat → ByteArray) (L : List (ByteArray × Value)) (k : Nat) : cnt E L k ≤ L.length := List.length_filter_le _ _

theorem cnt_seen (E : Nat → ByteArray) (L : List (ByteArray × Value)) (k : Nat) (h : seenIn E k (E k) = true) : cnt E L (k + 1) = cnt E L k := by
  unfold cnt
  congr 1
  refine List.filter_congr fun p _ => ?_
  simp only [seenIn]
  by_cases e : E k = p.1
  · rw [← e, h]; simp
  · simp [e]

theorem cnt_none (E : Nat → ByteArray) (L : List (ByteArray × Value)) (k : Nat) (h : getL L (E k) = none) : cnt E L (k + 1) = cnt E L k := by
  unfold cnt
  congr 1
  refine List.filter_congr fun p hp => ?_
  simp only [seenIn]
  by_cases e : E k = p.1
  · exfalso
    have : E k ∈ L.map (·.1) := by rw [e]; exact List.mem_map.2 ⟨p, hp, rfl⟩
    rw [mem_keys, h] at this
    simp at this
  · simp [e]

theorem cnt_new (E : Nat → ByteArray) (k : Nat) (h : seenIn E k (E k) = false) : ∀ (L : List (ByteArray × Value)), (L.map (·.1)).Nodup → (getL L (E k)).isSome = true → cnt E L (k + 1) = cnt E L k + 1
  | [], _, hs => by simp [getL_nil] at hs
  | (y, v) :: r, hn, hs => by
    simp only [List.map_cons, List.nodup_cons] at hn
    rw [getL_cons] at hs
    have hrest : ∀ m, cnt E ((y, v) :: r) m = (if seenIn E m y then 1 else 0) + cnt E r m := by
      intro m
      unfold cnt
      rw [List.filter_cons]
      by_cases hq : seenIn E m y = true
      · simp [hq]; omega
      · simp [hq]
    rw [hrest, hrest]
    by_cases e : y = E k
    · subst e
      have hnone : getL r (E k) = none := getL_none _ _ hn.1
      rw [cnt_none E r k hnone]
      have : seenIn E (k + 1) (E k) = true := by simp [seenIn]
      simp [this, h]
      omega
    · rw [if_neg e] at hs
      have ih := cnt_new E k h r hn.2 hs
      have : seenIn E (k + 1) y = seenIn E k y := by simp [seenIn, Ne.symm e]
      rw [this, ih]
      omega

theorem cnt_all (E : Nat → ByteArray) (L : List (ByteArray × Value)) (k : Nat) (h : ∀ x, (getL L x).isSome = true → ∃ j, j < k ∧ E j = x) : cnt E L k = L.length := by
  unfold cnt
  congr 1
  rw [List.filter_eq_self]
  intro p hp
  rw [seenIn_iff]
  exact h p.1 ((mem_keys p.1 L).1 (List.mem_map.2 ⟨p, hp, rfl⟩))

/-- seen behind the first k. -/
def sL (E : Nat → ByteArray) : Nat → List (ByteArray × Value)
  | 0 => []
  | k + 1 => if seenIn E k (E k) then sL E k else putL (sL E k) (E k) (.bool true)
theorem sL_get (E : Nat → ByteArray) : ∀ k x, getL (sL E k) x = if seenIn E k x then some (.bool true) else none
  | 0, x => by simp [sL, seenIn, getL_nil]
  | k + 1, x => by
    have ih := sL_get E k x
    unfold sL
    by_cases h : seenIn E k (E k) = true
    · rw [if_pos h, ih]
      simp only [seenIn]
      by_cases e : E k = x
      · subst e; simp [h]
      · simp [e]
    · rw [if_neg h, getL_put, ih]
      simp only [seenIn]
      by_cases e : E k = x
      · simp [e]
      · simp [e]

end Go.Proofs.Ybulkdwhm
