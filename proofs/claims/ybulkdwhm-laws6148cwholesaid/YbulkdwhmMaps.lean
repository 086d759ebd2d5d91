import Derived.WalkKit
import Derived.WalkSpells
import Derived.ChangeMaps5
import Derived.LaidEqlPtr
namespace Go.Proofs.Ybulkdwhm
open Go.RowKit Go.ChangeMaps

/-! ## A MAP AS THE LIST OF ITS ENTRIES: 'L' (a key that is a datum of ours, and the element's value), 'enc' the key as a value. No two entries have one key. -/
set_option linter.unusedSectionVars false
section
variable {κ : Type} [DecidableEq κ]

/-- The place and the element of the entry at x. -/
def pos (x : κ) : List (κ × Value) → Nat → Option (Nat × Value)
  | [], _ => none
  | (y, v) :: r, i => if y = x then some (i, v) else pos x r (i + 1)

/-- The element at x. -/
def getL (L : List (κ × Value)) (x : κ) : Option Value := (pos x L 0).map (·.2)

/-- m[x] = v. -/
def putL : List (κ × Value) → κ → Value → List (κ × Value)
  | [], x, v => [(x, v)]
  | (y, u) :: r, x, v => if y = x then (x, v) :: r else (y, u) :: putL r x v

/-- delete(m, x). -/
def delL : List (κ × Value) → κ → List (κ × Value)
  | [], _ => []
  | (y, u) :: r, x => if y = x then r else (y, u) :: delL r x

theorem pos_shift (x : κ) : ∀ (L : List (κ × Value)) (i : Nat), pos x L i = (pos x L 0).map (fun p => (p.1 + i, p.2))
  | [], _ => rfl
  | (y, v) :: r, i => by
    unfold pos
    by_cases h : y = x
    · simp [h]
    · simp only [if_neg h]
      rw [pos_shift x r (i + 1), pos_shift x r (0 + 1), Option.map_map]
      congr 1
      funext p
      simp
      omega

theorem getL_cons (y : κ) (u : Value) (r : List (κ × Value)) (x : κ) : getL ((y, u) :: r) x = if y = x then some u else getL r x := by
  unfold getL
  rw [show pos x ((y, u) :: r) 0 = if y = x then some (0, u) else pos x r 1 from rfl]
  by_cases h : y = x
  · simp [h]
  · simp only [if_neg h]
    rw [pos_shift x r 1, Option.map_map]
    rfl

theorem getL_nil (x : κ) : getL ([] : List (κ × Value)) x = none := rfl

theorem getL_put (x : κ) (v : Value) : ∀ (L : List (κ × Value)) (y : κ), getL (putL L x v) y = if x = y then some v else getL L y
  | [], y => by simp only [putL, getL_cons, getL_nil]
  | (z, u) :: r, y => by
    unfold putL
    by_cases h : z = x
    · subst h
      simp only [if_pos, getL_cons]
      by_cases e : z = y <;> simp [e]
    · simp only [if_neg h, getL_cons, getL_put x v r y]
      by_cases e : z = y
      · subst e
        simp [Ne.symm h]
      · simp [e]

theorem mem_keys (x : κ) : ∀ (L : List (κ × Value)), x ∈ L.map (·.1) ↔ (getL L x).isSome = true
  | [] => by simp [getL_nil]
  | (y, u) :: r => by
    rw [getL_cons, List.map_cons, List.mem_cons, mem_keys x r]
    by_cases h : y = x
    · simp [h]
    · simp [h, Ne.symm h]

theorem getL_none (x : κ) (L : List (κ × Value)) (h : x ∉ L.map (·.1)) : getL L x = none := by
  rw [mem_keys] at h
  cases hg : getL L x with
  | none => rfl
  | some v => simp [hg] at h

theorem getL_del (x : κ) : ∀ (L : List (κ × Value)) (y : κ), (L.map (·.1)).Nodup → getL (delL L x) y = if x = y then none else getL L y
  | [], y, _ => by simp [delL, getL_nil]
  | (z, u) :: r, y, hn => by
    simp only [List.map_cons, List.nodup_cons] at hn
    unfold delL
    by_cases h : z = x
    · subst h
      simp only [if_pos, getL_cons]
      by_cases e : z = y
      · subst e
        simp [getL_none z r hn.1]
      · simp [e]
    · simp only [if_neg h, getL_cons, getL_del x r y hn.2]
      by_cases e : z = y
      · subst e
        simp [Ne.symm h]
      · simp [e]

theorem keys_put (x : κ) (v : Value) : ∀ (L : List (κ × Value)), (putL L x v).map (·.1) = if x ∈ L.map (·.1) then L.map (·.1) else L.map (·.1) ++ [x]
  | [] => by simp [putL]
  | (z, u) :: r => by
    unfold putL
    by_cases h : z = x
    · subst h
      simp
    · simp only [if_neg h, List.map_cons, keys_put x v r, List.mem_cons]
      by_cases e : x ∈ r.map (·.1)
      · simp [e]
      · simp [e, Ne.symm h]

theorem keys_del (x : κ) : ∀ (L : List (κ × Value)), ((delL L x).map (·.1)).Sublist (L.map (·.1))
  | [] => by simp [delL]
  | (z, u) :: r => by
    unfold delL
    by_cases h : z = x
    · subst h
      simp
    · simp only [if_neg h, List.map_cons]
      exact (keys_del x r).cons_cons z

theorem nodup_put (x : κ) (v : Value) (L : List (κ × Value)) (h : (L.map (·.1)).Nodup) : ((putL L x v).map (·.1)).Nodup := by
  rw [keys_put]
  split
  · exact h
  · rename_i hx
    rw [List.nodup_append]
    refine ⟨h, by simp, ?_⟩
    intro a ha b hb
    simp at hb
    subst hb
    intro e
    subst e
    exact hx ha

theorem length_put (x : κ) (v : Value) (L : List (κ × Value)) : (putL L x v).length = if (getL L x).isSome then L.length else L.length + 1 := by
  have h := congrArg List.length (keys_put x v L)
  rw [List.length_map] at h
  rw [h]
  by_cases e : x ∈ L.map (·.1)
  · rw [if_pos e, if_pos ((mem_keys x L).1 e), List.length_map]
  · rw [if_neg e, if_neg (fun h => e ((mem_keys x L).2 h))]
    simp

variable (enc : κ → Value)

/-- The entries as they lie in the block. -/
def Lies (es : List MapEntry) (L : List (κ × Value)) : Prop := es.map (fun e => (e.key, e.val)) = L.map (fun p => (enc p.1, p.2))

/-- Block b is a map of just the entries L. -/
def MapIs (w : World) (b : Nat) (L : List (κ × Value)) : Prop :=
  (∃ es clock, w.heap[b]? = some (.map es clock) ∧ Lies enc es.toList L) ∧ (L.map (·.1)).Nodup

/-- In w the search for x among the entries L comes to the place of x. -/
def Decides (P : Program) (w : World) (kt : TypeId) (L : List (κ × Value)) (x : κ) : Prop :=
  (∀ em, (Instr.checkKey em 10000 kt (enc x)).run P w = .ok () w) ∧ ∀ es, Lies enc es L → (Instr.findKey kt (enc x) es).run P w = .ok (pos x L 0) w

variable {enc}

theorem MapIs.of_block {w w' : World} {b : Nat} {L : List (κ × Value)} (h : MapIs enc w b L) (e : w'.heap[b]? = w.heap[b]?) : MapIs enc w' b L := by
  obtain ⟨⟨es, clock, hb, hl⟩, hn⟩ := h
  exact ⟨⟨es, clock, e.trans hb, hl⟩, hn⟩

theorem MapIs.lt {w : World} {b : Nat} {L : List (κ × Value)} (h : MapIs enc w b L) : b < w.heap.size := by
  obtain ⟨⟨es, clock, hb, hl⟩, hn⟩ := h
  exact (Array.getElem?_eq_some_iff.1 hb).1

theorem MapIs.below {w w' : World} {b B : Nat} {L : List (κ × Value)} (h : MapIs enc w b L) (hb : Below B w w') (hB : b < B) : MapIs enc w' b L := h.of_block (hb.block b hB)

theorem MapIs.made (w : World) : MapIs enc (w.alloc (.map #[] 0)) w.heap.size ([] : List (κ × Value)) := ⟨⟨#[], 0, heap_alloc_new w _, rfl⟩, by simp⟩

theorem pos_none {x : κ} : ∀ {L : List (κ × Value)} {i : Nat}, pos x L i = none → ∀ v, putL L x v = L ++ [(x, v)] ∧ delL L x = L
  | [], _, _, v => ⟨rfl, rfl⟩
  | (y, u) :: r, i, h, v => by
    unfold pos at h
    by_cases e : y = x
    · simp [e] at h
    · simp only [if_neg e] at h
      obtain ⟨h1, h2⟩ := pos_none h v
      simp [putL, delL, e, h1, h2]

theorem pos_some {x : κ} : ∀ {L : List (κ × Value)} {i : Nat} {p : Nat × Value}, pos x L i = some p → i ≤ p.1 ∧ L[p.1 - i]? = some (x, p.2) ∧ (∀ v, putL L x v = L.set (p.1 - i) (x, v)) ∧ delL L x = L.eraseIdx (p.1 - i)
  | [], _, _, h => by simp [pos] at h
  | (y, u) :: r, i, p, h => by
    unfold pos at h
    by_cases e : y = x
    · subst e
      simp at h
      subst h
      simp [putL, delL]
    · simp only [if_neg e] at h
      obtain ⟨h1, h2, h3, h4⟩ := pos_some h
      obtain ⟨q, hq⟩ : ∃ q, p.1 - i = q + 1 := ⟨p.1 - i - 1, by omega⟩
      have hq2 : p.1 - (i + 1) = q := by omega
      rw [hq2] at h2 h3 h4
      rw [hq]
      refine ⟨by omega, by simpa using h2, fun v => by simp [putL, e, h3 v], by simp [delL, e, h4]⟩

/-- 'v, ok := m[x]'. -/
theorem MapIs.lookup {P : Program} {w : World} {b : Nat} {L : List (κ × Value)} (h : MapIs enc w b L) {mt kt et : TypeId} (hm : P.underlying mt = some (.map kt et)) {x : κ} (hd : Decides enc P w kt L x) {z : Value} (hz : (zeroValue et).run P w = .ok z w) :
    (Instr.lookup mt (.map (some b)) (enc x) true).run P w = .ok (.tuple #[(getL L x).getD z, .bool (getL L x).isSome]) w := by
  obtain ⟨⟨es, clock, hb, hl⟩, _⟩ := h
  obtain ⟨h1, h2⟩ := hd
  have h3 := h2 es.toList hl
  unfold Instr.lookup getL
  cases hp : pos x L 0 with
  | none => simp [run_underlying hm, Result.andThen, MapKept.run_getObj_map hb, h1, h3, hp, hz]
  | some p => simp [run_underlying hm, Result.andThen, MapKept.run_getObj_map hb, h1, h3, hp]

/-- 'm[x]'. -/
theorem MapIs.lookup1 {P : Program} {w : World} {b : Nat} {L : List (κ × Value)} (h : MapIs enc w b L) {mt kt et : TypeId} (hm : P.underlying mt = some (.map kt et)) {x : κ} (hd : Decides enc P w kt L x) {z : Value} (hz : (zeroValue et).run P w = .ok z w) :
    (Instr.lookup mt (.map (some b)) (enc x) false).run P w = .ok ((getL L x).getD z) w := by
  obtain ⟨⟨es, clock, hb, hl⟩, _⟩ := h
  obtain ⟨h1, h2⟩ := hd
  have h3 := h2 es.toList hl
  unfold Instr.lookup getL
  cases hp : pos x L 0 with
  | none => simp [run_underlying hm, Result.andThen, MapKept.run_getObj_map hb, h1, h3, hp, hz]
  | some p => simp [run_underlying hm, Result.andThen, MapKept.run_getObj_map hb, h1, h3, hp]

/-- What a map's turn does to the rest of the world. -/
structure Turned (w w' : World) (b : Nat) : Prop where
  os : w'.os = w.os
  tape : w'.tape = w.tape
  output : w'.output = w.output
  size : w'.heap.size = w.heap.size
  block : ∀ k, k ≠ b → w'.heap[k]? = w.heap[k]?

theorem turned_setBlock (w : World) (b : Nat) (o : Obj) : Turned w (setBlock w b o) b :=
  ⟨rfl, rfl, rfl, by simp [setBlock], fun k hk => by simp only [setBlock]; rw [Array.getElem?_setIfInBounds_ne (Ne.symm hk)]⟩

theorem Turned.below {w w' : World} {b B : Nat} (h : Turned w w' b) (hB : B ≤ b) : Below B w w' := ⟨h.os, h.tape, h.output, by rw [h.size]; exact Nat.le_refl _, fun k hk => h.block k (by omega)⟩
theorem Turned.cell {w w' : World} {b : Nat} (h : Turned w w' b) {a : Addr} (ha : a.block ≠ b) : w'.cell? a = w.cell? a := World.cell?_of_block (w := w) (h.block _ ha)
theorem Turned.frozen {w w' : World} {b : Nat} (h : Turned w w' b) {a : Addr} (ha : a.block ≠ b) : w'.frozen? a = w.frozen? a := World.frozen?_of_block (w := w) (h.block _ ha)

/-- 'm[x] = v'. -/
theorem MapIs.update {P : Program} {w : World} {b : Nat} {L : List (κ × Value)} (h : MapIs enc w b L) {mt kt et : TypeId} (hm : P.underlying mt = some (.map kt et)) {x : κ} (hd : Decides enc P w kt L x) (hbits : Instr.sameBits 10000 (enc x) (enc x) = true) (v : Value) :
    ∃ w', (Instr.mapUpdate mt (.map (some b)) (enc x) v).run P w = .ok () w' ∧ MapIs enc w' b (putL L x v) ∧ Turned w w' b := by
  obtain ⟨⟨es, clock, hb, hl⟩, hn⟩ := h
  obtain ⟨h1, h2⟩ := hd
  have h3 := h2 es.toList hl
  cases hp : pos x L 0 with
  | none =>
    refine ⟨setBlock w b (.map (es.push { key := enc x, val := v, born := clock }) (clock + 1)), ?_, ⟨⟨_, _, heap_setBlock_same hb _, ?_⟩, nodup_put x v L hn⟩, turned_setBlock _ _ _⟩
    · simp [Instr.mapUpdate, run_underlying hm, Result.andThen, MapKept.run_getObj_map hb, MapKept.run_setObj_map _ hb, h1, h3, hp, setBlock]
    · unfold Lies at hl ⊢
      rw [(pos_none hp v).1]
      simp [hl]
  | some p =>
    obtain ⟨_, q2, q3, _⟩ := pos_some hp
    rw [Nat.sub_zero] at q2 q3
    have hkey : (es.toList.map (fun e => (e.key, e.val)))[p.1]? = some (enc x, p.2) := by rw [hl]; simp [q2]
    obtain ⟨e0, he0, hkv⟩ : ∃ e0, es.toList[p.1]? = some e0 ∧ (e0.key, e0.val) = (enc x, p.2) := by
      rw [List.getElem?_map, Option.map_eq_some_iff] at hkey
      exact hkey
    have he1 : es[p.1]? = some e0 := by simpa using he0
    have hk0 : e0.key = enc x := (Prod.mk.inj hkv).1
    refine ⟨setBlock w b (.map (es.modify p.1 fun e => { e with key := enc x, val := v }) clock), ?_, ⟨⟨_, _, heap_setBlock_same hb _, ?_⟩, nodup_put x v L hn⟩, turned_setBlock _ _ _⟩
    · simp [Instr.mapUpdate, run_underlying hm, Result.andThen, MapKept.run_getObj_map hb, MapKept.run_setObj_map _ hb, h1, h3, hp, setBlock, Instr.keyThatStays, he1, hk0, hbits]
    · unfold Lies at hl ⊢
      rw [q3 v]
      apply List.ext_getElem?
      intro i
      have hi := congrArg (fun l => l[i]?) hl
      simp only [List.getElem?_map] at hi
      simp only [List.getElem?_map, Array.getElem?_toList, Array.getElem?_modify, List.getElem?_set]
      by_cases e : p.1 = i
      · subst e
        obtain ⟨hlt, _⟩ := List.getElem?_eq_some_iff.1 q2
        simp [he1, hlt]
      · simp only [if_neg e]
        simpa using hi

/-- 'len(m)'. -/
theorem MapIs.len {P : Program} {w : World} {b : Nat} {L : List (κ × Value)} (h : MapIs enc w b L) {mt kt et : TypeId} (hm : P.underlying mt = some (.map kt et)) (ty : TypeId) :
    (Builtin.len_ #[mt] ty #[.map (some b)]).run P w = .ok (.int .i64 L.length) w := by
  obtain ⟨⟨es, clock, hb, hl⟩, _⟩ := h
  have hsz : es.size = L.length := by
    have := congrArg List.length hl
    simpa using this
  simp [Builtin.len_, run_underlying hm, Result.andThen, MapKept.run_getObj_map hb, goInt, hsz]

/-- 'delete(m, x)'. -/
theorem MapIs.delete {P : Program} {w : World} {b : Nat} {L : List (κ × Value)} (h : MapIs enc w b L) {mt kt et : TypeId} (hm : P.underlying mt = some (.map kt et)) {x : κ} (hd : Decides enc P w kt L x) (kt' ty : TypeId) :
    ∃ w', (Builtin.delete_ #[mt, kt'] ty #[.map (some b), enc x]).run P w = .ok (.tuple #[]) w' ∧ MapIs enc w' b (delL L x) ∧ Turned w w' b := by
  obtain ⟨⟨es, clock, hb, hl⟩, hn⟩ := h
  obtain ⟨h1, h2⟩ := hd
  have h3 := h2 es.toList hl
  have hnd : ((delL L x).map (·.1)).Nodup := (keys_del x L).nodup hn
  cases hp : pos x L 0 with
  | none =>
    refine ⟨setBlock w b (.map es clock), ?_, ⟨⟨_, _, heap_setBlock_same hb _, ?_⟩, hnd⟩, turned_setBlock _ _ _⟩
    · simp [Builtin.delete_, run_underlying hm, Result.andThen, MapKept.run_getObj_map hb, MapKept.run_setObj_map _ hb, h1, h3, hp, setBlock]
    · rw [(pos_none hp undef).2]; exact hl
  | some p =>
    obtain ⟨_, _, _, q4⟩ := pos_some hp
    rw [Nat.sub_zero] at q4
    refine ⟨setBlock w b (.map (es.eraseIdxIfInBounds p.1) clock), ?_, ⟨⟨_, _, heap_setBlock_same hb _, ?_⟩, hnd⟩, turned_setBlock _ _ _⟩
    · simp [Builtin.delete_, run_underlying hm, Result.andThen, MapKept.run_getObj_map hb, MapKept.run_setObj_map _ hb, h1, h3, hp, setBlock]
    · unfold Lies at hl ⊢
      rw [q4, map_eraseIdx, ← hl, ← map_eraseIdx]
      simp

end
end Go.Proofs.Ybulkdwhm
