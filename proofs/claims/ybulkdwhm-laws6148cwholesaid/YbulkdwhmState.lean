import Derived.Test.YbulkdwhmTime
import Derived.Test.YbulkdwhmMaps
import Derived.MapKept
namespace Go.Proofs.Ybulkdwhm
open Go.RowKit
set_option linter.unusedVariables false
set_option linter.unusedSimpArgs false

abbrev str (s : ByteArray) : Value := .string s

theorem findNow_str (x : ByteArray) : ∀ (es : List MapEntry) (L : List (ByteArray × Value)) (i : Nat), Lies str es L → Instr.findNow .string (.string x) es i = some (pos x L i)
  | [], L, i, h => by
    have : L = [] := by simpa [Lies] using h.symm
    subst this
    rfl
  | e :: es, [], i, h => by simp [Lies] at h
  | e :: es, (y, v) :: L, i, h => by
    simp only [Lies, List.map_cons, List.cons.injEq, Prod.mk.injEq] at h
    obtain ⟨⟨hk, hv⟩, hr⟩ := h
    have hrec := findNow_str x es L (i + 1) hr
    simp only [Instr.findNow, hk, str, Instr.sameNow, pos]
    by_cases e1 : y = x
    · subst e1
      have : (y == y) = true := (MapKept.bytes_beq y y).2 rfl
      simp [this, hv]
    · have : (x == y) = false := by
        cases hb : (x == y) with
        | false => rfl
        | true => exact absurd ((MapKept.bytes_beq x y).1 hb).symm e1
      simp [this, e1, hrec]

theorem decides_str (w : World) (L : List (ByteArray × Value)) (x : ByteArray) : Decides str Yba.prog w 9 L x :=
  ⟨fun em => by
    unfold Instr.checkKey
    simp [run_underlying Yba.underlying9, Result.andThen], fun es hl => by
    simp [Instr.findKey, run_underlying Yba.underlying9, Result.andThen, findNow_str x es L 0 hl]⟩

theorem bits_str (x : ByteArray) : Instr.sameBits 10000 (str x) (str x) = true := by
  have : (x == x) = true := (MapKept.bytes_beq x x).2 rfl
  simp [str, Instr.sameBits, this]

theorem delete_nil (w : World) (x : ByteArray) (ty : TypeId) : (Builtin.delete_ #[65, 9] ty #[.map none, .string x]).run Yba.prog w = .ok (.tuple #[]) w := by
  have := (decides_str w [] x).1
  simp [Builtin.delete_, run_underlying Yba.underlying65, Result.andThen, this]

/-- Key j/4's cell j of the queue. -/
def kc (K : Nat → ByteArray) (X : Nat → Int) (j : Nat) : Value :=
  if j % 4 = 0 then .string (K (j / 4)) else if j % 4 = 1 then .int .u64 (X (j / 4) % 1000000000) else if j % 4 = 2 then .int .i64 (X (j / 4) / 1000000000) else .pointer none

/-- Block qb is a row of n keys, of which those from lo up to hi are K, X. -/
def QRow (w : World) (qb n : Nat) (K : Nat → ByteArray) (X : Nat → Int) (lo hi : Nat) : Prop :=
  ∃ f, w.rowIs qb 74 (n * 4) f ∧ ∀ j, lo * 4 ≤ j → j < hi * 4 → f j = kc K X j

theorem QRow.of_block {w w' : World} {qb n : Nat} {K : Nat → ByteArray} {X : Nat → Int} {lo hi : Nat} (h : QRow w qb n K X lo hi) (e : w'.heap[qb]? = w.heap[qb]?) : QRow w' qb n K X lo hi := by
  obtain ⟨f, h1, h2⟩ := h
  exact ⟨f, h1.of_block e, h2⟩
theorem QRow.lt {w : World} {qb n : Nat} {K : Nat → ByteArray} {X : Nat → Int} {lo hi : Nat} (h : QRow w qb n K X lo hi) : qb < w.heap.size := h.choose_spec.1.lt
theorem QRow.below {w w' : World} {qb n B : Nat} {K : Nat → ByteArray} {X : Nat → Int} {lo hi : Nat} (h : QRow w qb n K X lo hi) (hb : Below B w w') (hB : qb < B) : QRow w' qb n K X lo hi := h.of_block (hb.block _ hB)

/-- The four cells of key i. -/
theorem QRow.key {w : World} {qb n : Nat} {K : Nat → ByteArray} {X : Nat → Int} {lo hi i : Nat} (h : QRow w qb n K X lo hi) (h1 : lo ≤ i) (h2 : i < hi) (h3 : hi ≤ n) :
    w.cell? ⟨qb, i * 4, none⟩ = some (.string (K i)) ∧ w.cell? ⟨qb, i * 4 + 1, none⟩ = some (.int .u64 (X i % 1000000000)) ∧ w.cell? ⟨qb, i * 4 + 2, none⟩ = some (.int .i64 (X i / 1000000000)) ∧ w.cell? ⟨qb, i * 4 + 3, none⟩ = some (.pointer none) := by
  obtain ⟨f, r, hf⟩ := h
  refine ⟨?_, ?_, ?_, ?_⟩
  · rw [r.cell (by omega), hf _ (by omega) (by omega), kc, if_pos (by omega), show i * 4 / 4 = i from by omega]
  · rw [r.cell (by omega), hf _ (by omega) (by omega), kc, if_neg (by omega), if_pos (by omega), show (i * 4 + 1) / 4 = i from by omega]
  · rw [r.cell (by omega), hf _ (by omega) (by omega), kc, if_neg (by omega), if_neg (by omega), if_pos (by omega), show (i * 4 + 2) / 4 = i from by omega]
  · rw [r.cell (by omega), hf _ (by omega) (by omega), kc, if_neg (by omega), if_neg (by omega), if_neg (by omega)]

theorem QRow.frozen {w : World} {qb n : Nat} {K : Nat → ByteArray} {X : Nat → Int} {lo hi : Nat} (h : QRow w qb n K X lo hi) (i : Nat) : w.frozen? ⟨qb, i, none⟩ = false := h.choose_spec.1.frozen i

/-- Key i stored. -/
def put4 (w : World) (qb i : Nat) (k : ByteArray) (x y : Int) : World :=
  (((w.setCell ⟨qb, i * 4, none⟩ (.string k)).setCell ⟨qb, i * 4 + 1, none⟩ (.int .u64 x)).setCell ⟨qb, i * 4 + 2, none⟩ (.int .i64 y)).setCell ⟨qb, i * 4 + 3, none⟩ (.pointer none)

theorem QRow.put {w : World} {qb n i : Nat} {K : Nat → ByteArray} {X : Nat → Int} (h : QRow w qb n K X 0 i) : QRow (put4 w qb i (K i) (X i % 1000000000) (X i / 1000000000)) qb n K X 0 (i + 1) := by
  obtain ⟨f, h1, h2⟩ := h
  refine ⟨_, (((h1.set _ _).set _ _).set _ _).set _ _, fun j _ hj => ?_⟩
  rcases (show j < i * 4 ∨ j = i * 4 ∨ j = i * 4 + 1 ∨ j = i * 4 + 2 ∨ j = i * 4 + 3 from by omega) with e | e | e | e | e
  · simp only [if_neg (show ¬ j = i * 4 + 3 from by omega), if_neg (show ¬ j = i * 4 + 2 from by omega), if_neg (show ¬ j = i * 4 + 1 from by omega), if_neg (show ¬ j = i * 4 from by omega)]
    exact h2 j (by omega) e
  · subst e
    simp [kc, show i * 4 / 4 = i from by omega, show i * 4 % 4 = 0 from by omega]
  · subst e
    simp [kc, show (i * 4 + 1) / 4 = i from by omega, show (i * 4 + 1) % 4 = 1 from by omega]
  · subst e
    simp [kc, show (i * 4 + 2) / 4 = i from by omega, show (i * 4 + 2) % 4 = 2 from by omega]
  · subst e
    simp [kc, show (i * 4 + 3) / 4 = i from by omega, show (i * 4 + 3) % 4 = 3 from by omega]

/-- Key i struck out. -/
theorem QRow.strike {w : World} {qb n i hi : Nat} {K : Nat → ByteArray} {X : Nat → Int} (h : QRow w qb n K X i hi) (k : ByteArray) (x y : Int) : QRow (put4 w qb i k x y) qb n K X (i + 1) hi := by
  obtain ⟨f, h1, h2⟩ := h
  refine ⟨_, (((h1.set _ _).set _ _).set _ _).set _ _, fun j hj hj2 => ?_⟩
  simp only [if_neg (show ¬ j = i * 4 + 3 from by omega), if_neg (show ¬ j = i * 4 + 2 from by omega), if_neg (show ¬ j = i * 4 + 1 from by omega), if_neg (show ¬ j = i * 4 from by omega)]
  exact h2 j (by omega) hj2

theorem blk_set_other (w : World) (a : Addr) (v : Value) (b : Nat) (hb : b ≠ a.block) : (w.setCell a v).heap[b]? = w.heap[b]? := by
  simp [World.setCell, Array.getElem?_modify, Ne.symm hb]

theorem put4_block (w : World) (qb i : Nat) (k : ByteArray) (x y : Int) (b : Nat) (hb : b ≠ qb) : (put4 w qb i k x y).heap[b]? = w.heap[b]? := by
  unfold put4
  rw [blk_set_other _ _ _ _ hb, blk_set_other _ _ _ _ hb, blk_set_other _ _ _ _ hb, blk_set_other _ _ _ _ hb]
theorem put4_below {B : Nat} {w0 w : World} (h : Below B w0 w) {qb : Nat} (hq : B ≤ qb) (i : Nat) (k : ByteArray) (x y : Int) : Below B w0 (put4 w qb i k x y) :=
  (((h.setCell (p := ⟨qb, i * 4, none⟩) hq _).setCell (p := ⟨qb, i * 4 + 1, none⟩) hq _).setCell (p := ⟨qb, i * 4 + 2, none⟩) hq _).setCell (p := ⟨qb, i * 4 + 3, none⟩) hq _

/-- The receiver's block. -/
def gc (st : Int) (mv : Option Nat) (qv : Value) (i : Nat) : Value := if i = 0 then .int .i32 st else if i = 1 then .int .u32 0 else if i = 2 then .map mv else qv
def GAt (w : World) (gb : Nat) (st : Int) (mv : Option Nat) (qv : Value) : Prop := w.rowIs gb 70 4 (gc st mv qv)

theorem GAt.cells {w : World} {gb : Nat} {st : Int} {mv : Option Nat} {qv : Value} (h : GAt w gb st mv qv) :
    w.cell? ⟨gb, 0, none⟩ = some (.int .i32 st) ∧ w.cell? ⟨gb, 1, none⟩ = some (.int .u32 0) ∧ w.cell? ⟨gb, 2, none⟩ = some (.map mv) ∧ w.cell? ⟨gb, 3, none⟩ = some qv :=
  ⟨h.cell (by omega), h.cell (by omega), h.cell (by omega), h.cell (by omega)⟩
theorem GAt.frozen {w : World} {gb : Nat} {st : Int} {mv : Option Nat} {qv : Value} (h : GAt w gb st mv qv) (i : Nat) : w.frozen? ⟨gb, i, none⟩ = false := World.rowIs.frozen h i
theorem GAt.setSt {w : World} {gb : Nat} {st : Int} {mv : Option Nat} {qv : Value} (h : GAt w gb st mv qv) (s : Int) : GAt (w.setCell ⟨gb, 0, none⟩ (.int .i32 s)) gb s mv qv :=
  (World.rowIs.set h 0 _).congr fun i hi => by
    rcases (show i = 0 ∨ i = 1 ∨ i = 2 ∨ i = 3 from by omega) with rfl | rfl | rfl | rfl <;> simp [gc]
theorem GAt.setMap {w : World} {gb : Nat} {st : Int} {mv : Option Nat} {qv : Value} (h : GAt w gb st mv qv) (m : Option Nat) : GAt (w.setCell ⟨gb, 2, none⟩ (.map m)) gb st m qv :=
  (World.rowIs.set h 2 _).congr fun i hi => by
    rcases (show i = 0 ∨ i = 1 ∨ i = 2 ∨ i = 3 from by omega) with rfl | rfl | rfl | rfl <;> simp [gc]
theorem GAt.setQ {w : World} {gb : Nat} {st : Int} {mv : Option Nat} {qv : Value} (h : GAt w gb st mv qv) (q : Value) : GAt (w.setCell ⟨gb, 3, none⟩ q) gb st mv q :=
  (World.rowIs.set h 3 _).congr fun i hi => by
    rcases (show i = 0 ∨ i = 1 ∨ i = 2 ∨ i = 3 from by omega) with rfl | rfl | rfl | rfl <;> simp [gc]
theorem GAt.of_block {w w' : World} {gb : Nat} {st : Int} {mv : Option Nat} {qv : Value} (h : GAt w gb st mv qv) (e : w'.heap[gb]? = w.heap[gb]?) : GAt w' gb st mv qv := World.rowIs.of_block h e
theorem GAt.lt {w : World} {gb : Nat} {st : Int} {mv : Option Nat} {qv : Value} (h : GAt w gb st mv qv) : gb < w.heap.size := World.rowIs.lt h

/-- The map of the values, or none. -/
def MapSt (w : World) (gb : Nat) (mv : Option Nat) (L : List (ByteArray × Value)) : Prop := (mv = none ∧ L = []) ∨ ∃ mb, mv = some mb ∧ MapIs str w mb L ∧ gb < mb

theorem MapSt.of_blocks {w w' : World} {gb : Nat} {mv : Option Nat} {L : List (ByteArray × Value)} (h : MapSt w gb mv L) (e : ∀ b, mv = some b → w'.heap[b]? = w.heap[b]?) : MapSt w' gb mv L := by
  rcases h with h | ⟨mb, rfl, h, hg⟩
  · exact .inl h
  · exact .inr ⟨mb, rfl, h.of_block (e _ rfl), hg⟩

theorem ne_map_row {w : World} {mb b n : Nat} {t : TypeId} {L : List (ByteArray × Value)} {f : Nat → Value} (hm : MapIs str w mb L) (hr : w.rowIs b t n f) : b ≠ mb := by
  rintro rfl
  obtain ⟨c, hb, _⟩ := hr
  obtain ⟨⟨es, cl, hb2, _⟩, _⟩ := hm
  rw [hb] at hb2
  simp at hb2
theorem ne_row_row {w : World} {b b' n n' : Nat} {t t' : TypeId} {f f' : Nat → Value} (hr : w.rowIs b t n f) (hr' : w.rowIs b' t' n' f') (ht : t ≠ t') : b ≠ b' := by
  rintro rfl
  obtain ⟨c, hb, _⟩ := hr
  obtain ⟨c', hb2, _⟩ := hr'
  rw [hb] at hb2
  simp at hb2
  exact ht hb2.2

/-- The queue: the keys from j on of n. -/
def QSt (w : World) (gb : Nat) (qv : Value) (n j : Nat) (K : Nat → ByteArray) (X : Nat → Int) : Prop :=
  (n = 0 ∧ j = 0 ∧ qv = .slice none 0 0) ∨ ∃ qb o, 0 < n ∧ j ≤ n ∧ (j < n → o = j * 4) ∧ qv = .slice (some ⟨qb, o, none⟩) (n - j) (n - j) ∧ gb < qb ∧ QRow w qb n K X j n

theorem QSt.of_blocks {w w' : World} {gb : Nat} {qv : Value} {n j : Nat} {K : Nat → ByteArray} {X : Nat → Int} (h : QSt w gb qv n j K X) (e : ∀ b f, w.rowIs b 74 (n * 4) f → w'.heap[b]? = w.heap[b]?) : QSt w' gb qv n j K X := by
  rcases h with h | ⟨qb, o, h0, h1, ho, h2, h3, h4⟩
  · exact .inl h
  · exact .inr ⟨qb, o, h0, h1, ho, h2, h3, h4.of_block (e _ _ h4.choose_spec.1)⟩

/-- The whole. -/
def St (w : World) (gb : Nat) (st : Int) (mv : Option Nat) (L : List (ByteArray × Value)) (qv : Value) (n j : Nat) (K : Nat → ByteArray) (X : Nat → Int) : Prop :=
  GAt w gb st mv qv ∧ MapSt w gb mv L ∧ QSt w gb qv n j K X

theorem St.below {w w' : World} {gb : Nat} {st : Int} {mv : Option Nat} {L : List (ByteArray × Value)} {qv : Value} {n j : Nat} {K : Nat → ByteArray} {X : Nat → Int} (h : St w gb st mv L qv n j K X) {B : Nat} (hb : Below B w w') (hB : w.heap.size ≤ B) : St w' gb st mv L qv n j K X := by
  obtain ⟨h1, h2, h3⟩ := h
  refine ⟨h1.of_block (hb.block _ (Nat.lt_of_lt_of_le h1.lt hB)), ?_, h3.of_blocks fun b f hr => hb.block _ (Nat.lt_of_lt_of_le hr.lt hB)⟩
  rcases h2 with h2 | ⟨mb, rfl, h2, hg⟩
  · exact .inl h2
  · exact .inr ⟨mb, rfl, h2.of_block (hb.block _ (Nat.lt_of_lt_of_le h2.lt hB)), hg⟩

/-- A store into the receiver. -/
theorem MapSt.setG {w : World} {gb : Nat} {mv : Option Nat} {L : List (ByteArray × Value)} (h : MapSt w gb mv L) (o : Nat) (v : Value) : MapSt (w.setCell ⟨gb, o, none⟩ v) gb mv L := by
  rcases h with h2 | ⟨mb, rfl, h2, hg⟩
  · exact .inl h2
  · exact .inr ⟨mb, rfl, h2.of_block (blk_set_other _ _ _ _ (show mb ≠ gb by omega)), hg⟩
theorem QSt.setG {w : World} {gb : Nat} {qv : Value} {n j : Nat} {K : Nat → ByteArray} {X : Nat → Int} (h : QSt w gb qv n j K X) (o : Nat) (v : Value) : QSt (w.setCell ⟨gb, o, none⟩ v) gb qv n j K X := by
  rcases h with h | ⟨qb, o', h0, h1, ho, h2, h3, h4⟩
  · exact .inl h
  · exact .inr ⟨qb, o', h0, h1, ho, h2, h3, h4.of_block (blk_set_other _ _ _ _ (show qb ≠ gb by omega))⟩

/-- The number of keys from p on that are forgotten. -/
def old (X : Nat → Int) (at_ : Int) : Nat → Nat → Nat
  | 0, _ => 0
  | m + 1, p => if X p ≤ at_ then old X at_ m (p + 1) + 1 else 0
theorem old_le (X : Nat → Int) (at_ : Int) : ∀ m p, old X at_ m p ≤ m
  | 0, _ => Nat.le_refl _
  | m + 1, p => by
    unfold old
    have := old_le X at_ m (p + 1)
    split <;> omega
theorem old_step {X : Nat → Int} {at_ : Int} {n p : Nat} (h : p < n) (hd : X p ≤ at_) : old X at_ (n - p) p = old X at_ (n - (p + 1)) (p + 1) + 1 := by
  obtain ⟨m, hm⟩ : ∃ m, n - p = m + 1 := ⟨n - p - 1, by omega⟩
  rw [hm, show n - (p + 1) = m from by omega, old, if_pos hd]
theorem old_stop {X : Nat → Int} {at_ : Int} {n p : Nat} (h : p < n) (hd : ¬ X p ≤ at_) : old X at_ (n - p) p = 0 := by
  obtain ⟨m, hm⟩ : ∃ m, n - p = m + 1 := ⟨n - p - 1, by omega⟩
  rw [hm, old, if_neg hd]
theorem old_end {X : Nat → Int} {at_ : Int} {n p : Nat} (h : ¬ p < n) : old X at_ (n - p) p = 0 := by
  rw [show n - p = 0 from by omega, old]

/-- The keys of the first j struck from the map. -/
def dels (K : Nat → ByteArray) (L : List (ByteArray × Value)) : Nat → List (ByteArray × Value)
  | 0 => L
  | j + 1 => delL (dels K L j) (K j)

/-- delete(values, x). -/
theorem del_step {w : World} {gb : Nat} {mv : Option Nat} {L : List (ByteArray × Value)} (h : MapSt w gb mv L) (x : ByteArray) :
    ∃ w2, (Builtin.delete_ #[65, 9] 0 #[.map mv, .string x]).run Yba.prog w = .ok (.tuple #[]) w2 ∧ MapSt w2 gb mv (delL L x) ∧ (∀ b, mv ≠ some b → w2.heap[b]? = w.heap[b]?) ∧ Below gb w w2 := by
  rcases h with ⟨rfl, rfl⟩ | ⟨mb, rfl, hm, hg⟩
  · exact ⟨w, delete_nil w x 0, .inl ⟨rfl, rfl⟩, fun _ _ => rfl, Below.refl _ _⟩
  · obtain ⟨w2, h1, h2, h3⟩ := hm.delete Yba.underlying65 (decides_str w L x) 9 0
    exact ⟨w2, h1, .inr ⟨mb, rfl, h2, hg⟩, fun b hb => h3.block b (fun e => hb (by rw [e])), h3.below (Nat.le_of_lt hg)⟩

theorem MapSt.ne {w : World} {gb b n : Nat} {mv : Option Nat} {L : List (ByteArray × Value)} {t : TypeId} {f : Nat → Value} (h : MapSt w gb mv L) (hr : w.rowIs b t n f) : mv ≠ some b := by
  rcases h with ⟨rfl, _⟩ | ⟨mb, rfl, hm, _⟩
  · simp
  · intro e
    exact ne_map_row hm hr (Option.some.inj e).symm

/-- A time in a block of its own. -/
def tc (ns : Int) (i : Nat) : Value := if i = 0 then .int .u64 (ns % 1000000000) else if i = 1 then .int .i64 (ns / 1000000000) else .pointer none
def TAt (w : World) (b : Nat) (ns : Int) : Prop := w.rowIs b 56 3 (tc ns)
theorem TAt.cells {w : World} {b : Nat} {ns : Int} (h : TAt w b ns) : w.cell? ⟨b, 0, none⟩ = some (.int .u64 (ns % 1000000000)) ∧ w.cell? ⟨b, 1, none⟩ = some (.int .i64 (ns / 1000000000)) ∧ w.cell? ⟨b, 2, none⟩ = some (.pointer none) :=
  ⟨h.cell (by omega), h.cell (by omega), h.cell (by omega)⟩
theorem TAt.made (w : World) (ns : Int) : TAt (w.alloc (.cells #[.int .u64 (ns % 1000000000), .int .i64 (ns / 1000000000), .pointer none] 56)) w.heap.size ns := by
  refine World.rowIs_alloc w #[.int .u64 (ns % 1000000000), .int .i64 (ns / 1000000000), .pointer none] 56 _ fun i hi => ?_
  simp only [List.size_toArray, List.length_cons, List.length_nil] at hi
  rcases (show i = 0 ∨ i = 1 ∨ i = 2 from by omega) with rfl | rfl | rfl <;> simp [tc]

theorem cell_keep {w w' : World} {B : Nat} (hb : Below B w w') {a : Addr} {v : Value} (h : w.cell? a = some v) (hB : w.heap.size ≤ B) : w'.cell? a = some v := (hb.cell (Nat.lt_of_lt_of_le (cell_lt h) hB)).trans h

/-- Rows of other types than the receiver's and the queue's stay as they are. -/
def Keeps (w w' : World) : Prop := ∀ b t m f, w.rowIs b t m f → t ≠ 70 → t ≠ 74 → w'.rowIs b t m f
theorem Keeps.refl (w : World) : Keeps w w := fun _ _ _ _ h _ _ => h
theorem Keeps.trans {w w' w'' : World} (h : Keeps w w') (h' : Keeps w' w'') : Keeps w w'' := fun b t m f r a c => h' b t m f (h b t m f r a c) a c
theorem Keeps.of_below {w w' : World} {B : Nat} (h : Below B w w') (hB : w.heap.size ≤ B) : Keeps w w' := fun b t m f r _ _ => r.of_block (h.block b (Nat.lt_of_lt_of_le r.lt hB))
theorem Keeps.of_blocks {w w' : World} {mv : Option Nat} {gb : Nat} {L : List (ByteArray × Value)} (hm : MapSt w gb mv L) (h : ∀ b, mv ≠ some b → w'.heap[b]? = w.heap[b]?) : Keeps w w' := fun b t m f r _ _ => r.of_block (h b (hm.ne r))
theorem Keeps.set {w0 w : World} (h : Keeps w0 w) {b n : Nat} {t : TypeId} {f : Nat → Value} (hr : w.rowIs b t n f) (ht : t = 70 ∨ t = 74) (o : Nat) (v : Value) : Keeps w0 (w.setCell ⟨b, o, none⟩ v) := fun b' t' m f' r a c => by
  have r' := h b' t' m f' r a c
  exact r'.of_block (blk_set_other _ _ _ _ (ne_row_row r' hr (by rcases ht with rfl | rfl <;> assumption)))
theorem Keeps.put4 {w0 w : World} (h : Keeps w0 w) {b n : Nat} {f : Nat → Value} (hr : w.rowIs b 74 n f) (i : Nat) (k : ByteArray) (x y : Int) : Keeps w0 (put4 w b i k x y) := fun b' t' m f' r a c => by
  have r' := h b' t' m f' r a c
  exact r'.of_block (put4_block _ _ _ _ _ _ _ (ne_row_row r' hr c))

theorem forget_close {w0 w : World} {gb qb n j o : Nat} {st : Int} {mv : Option Nat} {L : List (ByteArray × Value)} {qv : Value} {K : Nat → ByteArray} {X : Nat → Int}
    (hg : GAt w gb st mv qv) (hm : MapSt w gb mv L) (hr : QRow w qb n K X j n) (hq : gb < qb) {wk : World} (ht : Keeps wk w) (hb : Below gb w0 w) (hj : j < n) (ho : j + 1 < n → o = (j + 1) * 4) :
    St ((put4 w qb j ByteArray.empty 0 0).setCell ⟨gb, 3, none⟩ (.slice (some ⟨qb, o, none⟩) (n - (j + 1)) (n - (j + 1)))) gb st mv L (.slice (some ⟨qb, o, none⟩) (n - (j + 1)) (n - (j + 1))) n (j + 1) K X ∧
    Keeps wk ((put4 w qb j ByteArray.empty 0 0).setCell ⟨gb, 3, none⟩ (.slice (some ⟨qb, o, none⟩) (n - (j + 1)) (n - (j + 1)))) ∧
    Below gb w0 ((put4 w qb j ByteArray.empty 0 0).setCell ⟨gb, 3, none⟩ (.slice (some ⟨qb, o, none⟩) (n - (j + 1)) (n - (j + 1)))) := by
  obtain ⟨fq, hfq, _⟩ := id hr
  have n1 : gb ≠ qb := by omega
  refine ⟨⟨(hg.of_block (put4_block _ _ _ _ _ _ _ n1)).setQ _, ?_, ?_⟩, ?_, ?_⟩
  · refine MapSt.setG (hm.of_blocks fun b hb => put4_block _ _ _ _ _ _ _ ?_) _ _
    rintro rfl
    exact hm.ne hfq hb
  · exact .inr ⟨qb, o, by omega, by omega, ho, rfl, hq, (hr.strike _ _ _).of_block (blk_set_other _ _ _ _ (show qb ≠ gb by omega))⟩
  · exact (ht.put4 hfq _ _ _ _).set (World.rowIs.of_block hg (put4_block _ _ _ _ _ _ _ n1)) (.inl rfl) _ _
  · exact (put4_below hb (by omega) _ _ _ _).setCell (Nat.le_refl _) _

end Go.Proofs.Ybulkdwhm
