import Derived.Test.YbulkdwhmPure
import Derived.Deep.CutBlock
namespace Go.Proofs.Ybulkdwhm
open Go.RowKit Go.MuLone
set_option linter.unusedVariables false
set_option linter.unusedSimpArgs false

/-- The entries that came in. -/
def EntAt (w : World) (a : Option Addr) (n : Nat) (K : Nat → ByteArray) (X : Nat → Int) (P : Nat → Bool) (C : Nat → ByteArray) : Prop :=
  ∀ i, i < n → ∃ b off, a = some ⟨b, off, none⟩ ∧ w.cell? ⟨b, off + i * 4, none⟩ = some (.string (K i)) ∧ w.cell? ⟨b, off + i * 4 + 1, none⟩ = some (.int .i64 (X i)) ∧ w.cell? ⟨b, off + i * 4 + 2, none⟩ = some (.bool (P i)) ∧ w.cell? ⟨b, off + i * 4 + 3, none⟩ = some (.string (C i))
theorem EntAt.below {w w' : World} {a : Option Addr} {n : Nat} {K : Nat → ByteArray} {X : Nat → Int} {P : Nat → Bool} {C : Nat → ByteArray} (h : EntAt w a n K X P C) {B : Nat} (hb : Below B w w') (hB : w.heap.size ≤ B) : EntAt w' a n K X P C := by
  intro i hi
  obtain ⟨b, off, e, h0, h1, h2, h3⟩ := h i hi
  exact ⟨b, off, e, cell_keep hb h0 hB, cell_keep hb h1 hB, cell_keep hb h2 hB, cell_keep hb h3 hB⟩

/-- The four variables. -/
def Vars (w : World) (zb eb ab tb : Nat) (ex at_ : Int) (cs : Array Value) : Prop :=
  TAt w zb 0 ∧ TAt w eb ex ∧ TAt w ab at_ ∧ w.rowIs tb 62 cs.size (fun i => cs.getD i undef)
theorem Vars.below {w w' : World} {zb eb ab tb : Nat} {ex at_ : Int} {cs : Array Value} (h : Vars w zb eb ab tb ex at_ cs) {B : Nat} (hb : Below B w w') (hB : w.heap.size ≤ B) : Vars w' zb eb ab tb ex at_ cs := by
  have hk := Keeps.of_below hb hB
  exact ⟨hk _ _ _ _ h.1 (by decide) (by decide), hk _ _ _ _ h.2.1 (by decide) (by decide), hk _ _ _ _ h.2.2.1 (by decide) (by decide), hk _ _ _ _ h.2.2.2 (by decide) (by decide)⟩

abbrev enc_ : ByteArray := ⟨#[101, 110, 99]⟩
abbrev bearer : ByteArray := ⟨#[66, 101, 97, 114, 101, 114]⟩
abbrev rt_ : ByteArray := ⟨#[114, 116]⟩

theorem GAt.made (w : World) : GAt (w.alloc (.cells #[.int .i32 0, .int .u32 0, .map none, .slice none 0 0] 70)) w.heap.size 0 none (.slice none 0 0) := by
  refine World.rowIs_alloc w #[.int .i32 0, .int .u32 0, .map none, .slice none 0 0] 70 _ fun i hi => ?_
  simp only [List.size_toArray, List.length_cons, List.length_nil] at hi
  rcases (show i = 0 ∨ i = 1 ∨ i = 2 ∨ i = 3 from by omega) with rfl | rfl | rfl | rfl <;> simp [gc]

/-- What make([]issuedKey, n) lays. -/
def keyZero (n : Nat) : Array Value := madeCells #[.string ByteArray.empty, .int .u64 0, .int .i64 0, .pointer none] (n * 4)

theorem run_make_keys (n : Nat) (hn : n ≤ 65536) (w : World) :
    (Instr.makeSlice 66 (.int .i64 (n : Int)) (.int .i64 (n : Int))).run Yba.prog w = .ok (.slice (some ⟨w.heap.size, 0, none⟩) n n) (w.alloc (.cells (keyZero n) 74)) := by
  obtain ⟨i0, hi, hz0, hz1, hz2⟩ := info_parts Yba.info74
  have h := run_make (P := Yba.prog) w 66 74 i0 _ Yba.underlying66 hi hz0 .i64 .i64 n n (by omega) (by omega) (by rw [hz2]; omega) (by omega)
  rw [hz1] at h
  simp only [Int.toNat_natCast] at h
  exact h

theorem QRow.made (w : World) (n : Nat) (K : Nat → ByteArray) (X : Nat → Int) : QRow (w.alloc (.cells (keyZero n) 74)) w.heap.size n K X 0 0 := by
  have hs : (keyZero n).size = n * 4 := by simp [keyZero, size_madeCells]
  refine ⟨fun i => (keyZero n).getD i undef, ?_, fun j _ hj => absurd hj (by omega)⟩
  rw [← hs]
  exact World.rowIs_alloc w (keyZero n) 74 _ (fun i hi => by simp [hi])

/-- What the filling of a key reads. -/
def Five (w : World) (zb b o : Nat) (k : ByteArray) (x : Int) : Prop :=
  w.cell? ⟨b, o, none⟩ = some (.string k) ∧ w.cell? ⟨b, o + 1, none⟩ = some (.int .i64 x) ∧ w.cell? ⟨zb, 0, none⟩ = some (.int .u64 0) ∧ w.cell? ⟨zb, 1, none⟩ = some (.int .i64 0) ∧ w.cell? ⟨zb, 2, none⟩ = some (.pointer none)
theorem Five.set {w : World} {zb b o qb : Nat} {k : ByteArray} {x : Int} (h : Five w zb b o k x) (h1 : qb ≠ b) (h2 : qb ≠ zb) (p : Nat) (v : Value) : Five (w.setCell ⟨qb, p, none⟩ v) zb b o k x := by
  have e1 : ∀ o', (⟨qb, p, none⟩ : Addr) ≠ ⟨b, o', none⟩ := fun o' e => h1 (congrArg Addr.block e)
  have e2 : ∀ o', (⟨qb, p, none⟩ : Addr) ≠ ⟨zb, o', none⟩ := fun o' e => h2 (congrArg Addr.block e)
  unfold Five
  rw [World.cell?_setCell_other _ _ _ _ (e1 _), World.cell?_setCell_other _ _ _ _ (e1 _), World.cell?_setCell_other _ _ _ _ (e2 _), World.cell?_setCell_other _ _ _ _ (e2 _), World.cell?_setCell_other _ _ _ _ (e2 _)]
  exact h
theorem Five.put4 {w : World} {zb b o qb : Nat} {k : ByteArray} {x : Int} (h : Five w zb b o k x) (h1 : qb ≠ b) (h2 : qb ≠ zb) (i : Nat) (k' : ByteArray) (x' y' : Int) : Five (put4 w qb i k' x' y') zb b o k x :=
  (((h.set h1 h2 _ _).set h1 h2 _ _).set h1 h2 _ _).set h1 h2 _ _

/-- A store into the receiver, then a new block: the map made. -/
theorem St.make {w : World} {gb : Nat} {st : Int} {L : List (ByteArray × Value)} {qv : Value} {n j : Nat} {K : Nat → ByteArray} {X : Nat → Int} (h : St w gb st none L qv n j K X) :
    St ((w.setCell ⟨gb, 2, none⟩ (.map (some w.heap.size))).alloc (.map #[] 0)) gb st (some w.heap.size) L qv n j K X := by
  obtain ⟨hg, hm, hq⟩ := h
  have hsz : (w.setCell ⟨gb, 2, none⟩ (.map (some w.heap.size))).heap.size = w.heap.size := by simp [World.setCell]
  have hL : L = [] := by
    rcases hm with ⟨_, h⟩ | ⟨mb, h, _⟩
    · exact h
    · cases h
  refine ⟨(hg.setMap (some w.heap.size)).of_block (heap_alloc_old _ _ (by rw [hsz]; exact hg.lt)), .inr ⟨w.heap.size, rfl, ?_, hg.lt⟩, (hq.setG 2 (.map (some w.heap.size))).of_blocks fun b f hr => heap_alloc_old _ _ hr.lt⟩
  rw [hL]
  have := MapIs.made (enc := str) (w.setCell ⟨gb, 2, none⟩ (.map (some w.heap.size)))
  rw [hsz] at this
  exact this

/-- m[x] = v. -/
theorem St.put {w : World} {gb mb : Nat} {st : Int} {L : List (ByteArray × Value)} {qv : Value} {n j : Nat} {K : Nat → ByteArray} {X : Nat → Int} (h : St w gb st (some mb) L qv n j K X) (x : ByteArray) (v : Value) :
    ∃ w3, (Instr.mapUpdate 65 (.map (some mb)) (.string x) v).run Yba.prog w = .ok () w3 ∧ St w3 gb st (some mb) (putL L x v) qv n j K X ∧ Below gb w w3 ∧ (∀ a : Addr, ∀ u, w.cell? a = some u → w3.cell? a = some u) := by
  obtain ⟨hg, hm, hq⟩ := h
  rcases hm with ⟨h, _⟩ | ⟨mb', h, hm, hgm⟩
  · cases h
  · cases h
    obtain ⟨w3, h1, h2, h3⟩ := hm.update Yba.underlying65 (decides_str w L x) (bits_str x) v
    refine ⟨w3, h1, ⟨hg.of_block (h3.block gb (by omega)), .inr ⟨mb, rfl, h2, hgm⟩, hq.of_blocks fun b f hr => h3.block b (ne_map_row hm hr)⟩, h3.below (Nat.le_of_lt hgm), fun a u hu => ?_⟩
    refine (h3.cell ?_).trans hu
    intro e
    obtain ⟨⟨es, cl, hb, _⟩, _⟩ := hm
    simp [World.cell?, e, hb] at hu

/-- What the test of a key reads. -/
def Nine (w : World) (kb zb b o : Nat) (k : ByteArray) (x : Int) : Prop :=
  w.cell? ⟨kb, 0, none⟩ = some (.string k) ∧ w.cell? ⟨kb, 1, none⟩ = some (.int .u64 (x % 1000000000)) ∧ w.cell? ⟨kb, 2, none⟩ = some (.int .i64 (x / 1000000000)) ∧ w.cell? ⟨kb, 3, none⟩ = some (.pointer none) ∧ w.cell? ⟨b, o, none⟩ = some (.string k) ∧ w.cell? ⟨b, o + 1, none⟩ = some (.int .i64 x) ∧ w.cell? ⟨zb, 0, none⟩ = some (.int .u64 0) ∧ w.cell? ⟨zb, 1, none⟩ = some (.int .i64 0) ∧ w.cell? ⟨zb, 2, none⟩ = some (.pointer none)
theorem Nine.below {w w' : World} {kb zb b o : Nat} {k : ByteArray} {x : Int} (h : Nine w kb zb b o k x) {B : Nat} (hb : Below B w w') (hB : w.heap.size ≤ B) : Nine w' kb zb b o k x := by
  obtain ⟨h0, h1, h2, h3, h4, h5, h6, h7, h8⟩ := h
  exact ⟨cell_keep hb h0 hB, cell_keep hb h1 hB, cell_keep hb h2 hB, cell_keep hb h3 hB, cell_keep hb h4 hB, cell_keep hb h5 hB, cell_keep hb h6 hB, cell_keep hb h7 hB, cell_keep hb h8 hB⟩

theorem Yba.info9 : (Yba.prog.info? 9).map (fun i => (i.zero, i.size, i.bytes)) = some (some (.string ByteArray.empty), 1, 16) := by kernel_rfl

theorem own_below {w w' : World} {base : Nat} {t : TypeId} {x : Value} {m : Nat} {ys : List Value} (hx : w.ownsRow base t 1 x m ys) (hg : w.grownBy w' x.ownBlock) (hb : base ≤ w.heap.size) : Below base w w' := by
  refine (Below.refl base w).grown hg hb fun k hk => ?_
  obtain ⟨_, ⟨rfl, _⟩ | ⟨g2, cap2, cur2, rfl, h1, _⟩⟩ := hx
  · simp [Value.ownBlock] at hk
  · simp [Value.ownBlock] at hk; omega

theorem own_form {w : World} {base : Nat} {t : TypeId} {v : Value} {m : Nat} {xs : List Value} (h : w.ownsRow base t 1 v m xs) (hm : 0 < m) : ∃ g cp, v = .slice (some ⟨g, 0, none⟩) m cp := by
  obtain ⟨_, ⟨rfl, h0⟩ | ⟨g, cap, cur, rfl, _⟩⟩ := h
  · omega
  · exact ⟨g, cap, rfl⟩

theorem run_make_cands (n : Nat) (hn : n ≤ 65536) (w : World) :
    (Instr.makeSlice 80 (.int .i64 0) (.int .i64 ((n : Int) + 1))).run Yba.prog w = .ok (.slice (some ⟨w.heap.size, 0, none⟩) 0 (n + 1)) (w.alloc (.cells (madeCells #[.string ByteArray.empty] (n + 1)) 9)) := by
  obtain ⟨i0, hi, hz0, hz1, hz2⟩ := info_parts Yba.info9
  have h := run_make (P := Yba.prog) w 80 9 i0 _ Yba.underlying80 hi hz0 .i64 .i64 0 ((n : Int) + 1) (by omega) (by omega) (by rw [hz2]; omega) (by omega)
  rw [hz1, show ((n : Int) + 1).toNat = n + 1 from by omega] at h
  simpa [Value.cells] using h

/-- The candidates, the first k. -/
def cands (K : Nat → ByteArray) (ac : ByteArray) (k : Nat) : List Value := (List.range k).map fun i => .string (D K ac i)
theorem cands_snoc (K : Nat → ByteArray) (ac : ByteArray) (k : Nat) : cands K ac k ++ [.string (D K ac k)] = cands K ac (k + 1) := by
  simp [cands, List.range_succ]

theorem cands_own (w : World) (n : Nat) (hn : n ≤ 65536) : (w.alloc (.cells (madeCells #[.string ByteArray.empty] (n + 1)) 9)).ownsRow w.heap.size 9 1 (.slice (some ⟨w.heap.size, 0, none⟩) 0 (n + 1)) 0 [] :=
  ⟨rfl, .inr ⟨w.heap.size, n + 1, _, rfl, Nat.le_refl _, heap_alloc_new w _, Nat.zero_le _, by unfold maxLen; omega, by simp [size_madeCells], by simp⟩⟩

theorem there_or (K : Nat → ByteArray) (X : Nat → Int) (P : Nat → Bool) (C : Nat → ByteArray) (n c : Nat) (ac : ByteArray) (g : Value) {x : ByteArray} (hx : ¬ x = ac) :
    (getL (V K X P C n c ac g) x = none ∧ (getL (rL K c) x = some (.bool true) ∨ (getL (rL K c) x = none ∧ getL (lL K P n) x = none))) ∨ ∃ j, j < n ∧ getL (rL K c) x = none ∧ getL (lL K P n) x = some (.int .i64 (j : Nat)) ∧ getL (V K X P C n c ac g) x = some (ent X C j) := by
  rcases rem_val K c x with ⟨h1, _⟩ | ⟨h1, _⟩
  · rcases last_val K X P C n x with ⟨h2, _⟩ | ⟨j, hj, h2, _⟩
    · exact .inl ⟨V_gone K X P C n c ac g hx (.inr h2), .inr ⟨h1, h2⟩⟩
    · exact .inr ⟨j, hj, h1, h2, V_there K X P C n c ac g hx h1 h2⟩
  · exact .inl ⟨V_gone K X P C n c ac g hx (.inl h1), .inl h1⟩

/-- What the making of 'want' reads. -/
abbrev Wants (w : World) (zb b o : Nat) (k : ByteArray) (x : Int) : Prop :=
  w.cell? ⟨b, o + 3, none⟩ = some (.string k) ∧ w.cell? ⟨b, o + 1, none⟩ = some (.int .i64 x) ∧ w.cell? ⟨zb, 0, none⟩ = some (.int .u64 0) ∧ w.cell? ⟨zb, 1, none⟩ = some (.int .i64 0) ∧ w.cell? ⟨zb, 2, none⟩ = some (.pointer none)
theorem Wants.below {w w' : World} {zb b o : Nat} {k : ByteArray} {x : Int} (h : Wants w zb b o k x) {B : Nat} (hb : Below B w w') (hB : w.heap.size ≤ B) : Wants w' zb b o k x := by
  obtain ⟨h0, h1, h2, h3, h4⟩ := h
  exact ⟨cell_keep hb h0 hB, cell_keep hb h1 hB, cell_keep hb h2 hB, cell_keep hb h3 hB, cell_keep hb h4 hB⟩
theorem Wants.alloc {w : World} {zb b o : Nat} {k : ByteArray} {x : Int} (h : Wants w zb b o k x) (ob : Obj) : Wants (w.alloc ob) zb b o k x :=
  h.below ((Below.refl _ w).alloc (Nat.le_refl _) ob) (Nat.le_refl _)
theorem Wants.set {w : World} {zb b o qb : Nat} {k : ByteArray} {x : Int} (h : Wants w zb b o k x) (h1 : qb ≠ b) (h2 : qb ≠ zb) (p : Nat) (v : Value) : Wants (w.setCell ⟨qb, p, none⟩ v) zb b o k x := by
  have e1 : ∀ o', (⟨qb, p, none⟩ : Addr) ≠ ⟨b, o', none⟩ := fun o' e => h1 (congrArg Addr.block e)
  have e2 : ∀ o', (⟨qb, p, none⟩ : Addr) ≠ ⟨zb, o', none⟩ := fun o' e => h2 (congrArg Addr.block e)
  unfold Wants
  rw [World.cell?_setCell_other _ _ _ _ (e1 _), World.cell?_setCell_other _ _ _ _ (e1 _), World.cell?_setCell_other _ _ _ _ (e2 _), World.cell?_setCell_other _ _ _ _ (e2 _), World.cell?_setCell_other _ _ _ _ (e2 _)]
  exact h
theorem Wants.drew {w : World} {zb b o : Nat} {k : ByteArray} {x : Int} (h : Wants w zb b o k x) : Wants w.drew zb b o k x := h
abbrev put7 (w : World) (q : Nat) (a0 a1 a2 a3 a4 a5 a6 : Value) : World :=
  ((((((w.setCell ⟨q, 0, none⟩ a0).setCell ⟨q, 1, none⟩ a1).setCell ⟨q, 2, none⟩ a2).setCell ⟨q, 3, none⟩ a3).setCell ⟨q, 4, none⟩ a4).setCell ⟨q, 5, none⟩ a5).setCell ⟨q, 6, none⟩ a6
theorem Wants.put7 {w : World} {zb b o qb : Nat} {k : ByteArray} {x : Int} (h : Wants w zb b o k x) (h1 : qb ≠ b) (h2 : qb ≠ zb) (a0 a1 a2 a3 a4 a5 a6 : Value) : Wants (put7 w qb a0 a1 a2 a3 a4 a5 a6) zb b o k x :=
  ((((((h.set h1 h2 _ _).set h1 h2 _ _).set h1 h2 _ _).set h1 h2 _ _).set h1 h2 _ _).set h1 h2 _ _).set h1 h2 _ _
theorem put7_below {B : Nat} {w0 w : World} (h : Below B w0 w) {q : Nat} (hq : B ≤ q) (a0 a1 a2 a3 a4 a5 a6 : Value) : Below B w0 (put7 w q a0 a1 a2 a3 a4 a5 a6) :=
  ((((((h.setCell (p := ⟨q, 0, none⟩) hq _).setCell (p := ⟨q, 1, none⟩) hq _).setCell (p := ⟨q, 2, none⟩) hq _).setCell (p := ⟨q, 3, none⟩) hq _).setCell (p := ⟨q, 4, none⟩) hq _).setCell (p := ⟨q, 5, none⟩) hq _).setCell (p := ⟨q, 6, none⟩) hq _
theorem VAt.put {w : World} {q : Nat} {f : Nat → Value} (h : w.rowIs q 76 7 f) (c s p : ByteArray) (l : Bool) (ns : Int) : VAt (put7 w q (.string c) (.string s) (.string p) (.bool l) (.int .u64 (ns % 1000000000)) (.int .i64 (ns / 1000000000)) (.pointer none)) q c s p l ns :=
  (((((((h.set 0 _).set 1 _).set 2 _).set 3 _).set 4 _).set 5 _).set 6 _).congr fun i hi => by
    rcases (show i = 0 ∨ i = 1 ∨ i = 2 ∨ i = 3 ∨ i = 4 ∨ i = 5 ∨ i = 6 from by omega) with rfl | rfl | rfl | rfl | rfl | rfl | rfl <;> simp [vcell]
abbrev zero7 : Obj := .cells #[.string ⟨#[]⟩, .string ⟨#[]⟩, .string ⟨#[]⟩, .bool false, .int .u64 0, .int .i64 0, .pointer none] 76
theorem row_alloc (w : World) (cs : Array Value) (t : TypeId) : (w.alloc (.cells cs t)).rowIs w.heap.size t cs.size (fun i => cs.getD i undef) := World.rowIs_alloc w cs t _ (fun i hi => by simp [hi])
theorem zero7_row (w : World) : ∃ f, (w.alloc zero7).rowIs w.heap.size 76 7 f := ⟨_, row_alloc w #[.string ⟨#[]⟩, .string ⟨#[]⟩, .string ⟨#[]⟩, .bool false, .int .u64 0, .int .i64 0, .pointer none] 76⟩
theorem bytes_ne {x y : ByteArray} (h : ¬ x = y) : (x.toList == y.toList) = false := by
  rw [Bool.eq_false_iff]
  intro e
  rw [beq_iff_eq, ByteArray.toList_eq, ByteArray.toList_eq] at e
  exact h (ByteArray.ext (Array.toList_inj.mp e))
/-- Of what was there, only block sb has turned. -/
structure Off (sb : Nat) (w w' : World) : Prop where
  os : w'.os = w.os
  tape : w'.tape = w.tape
  output : w'.output = w.output
  size : w.heap.size ≤ w'.heap.size
  block : ∀ k, k < w.heap.size → k ≠ sb → w'.heap[k]? = w.heap[k]?
theorem Off.refl (sb : Nat) (w : World) : Off sb w w := ⟨rfl, rfl, rfl, Nat.le_refl _, fun _ _ _ => rfl⟩
theorem Off.below {sb : Nat} {w w' w'' : World} (h : Off sb w w') (hb : Below w'.heap.size w' w'') : Off sb w w'' :=
  ⟨hb.os.trans h.os, hb.tape.trans h.tape, hb.output.trans h.output, Nat.le_trans h.size hb.size, fun k hk hne => (hb.block k (Nat.lt_of_lt_of_le hk h.size)).trans (h.block k hk hne)⟩
theorem Off.turned {sb : Nat} {w w' w'' : World} (h : Off sb w w') (ht : Turned w' w'' sb) : Off sb w w'' :=
  ⟨ht.os.trans h.os, ht.tape.trans h.tape, ht.output.trans h.output, by rw [ht.size]; exact h.size, fun k hk hne => (ht.block k hne).trans (h.block k hk hne)⟩
theorem Off.toBelow {sb : Nat} {w w' : World} (h : Off sb w w') {B : Nat} (hB : B ≤ sb) (hw : B ≤ w.heap.size) : Below B w w' :=
  ⟨h.os, h.tape, h.output, h.size, fun k hk => h.block k (by omega) (by omega)⟩
theorem Off.cell {sb : Nat} {w w' : World} (h : Off sb w w') {L : List (ByteArray × Value)} (hm : MapIs str w sb L) {a : Addr} {v : Value} (hc : w.cell? a = some v) : w'.cell? a = some v := by
  refine (World.cell?_of_block (w := w) (h.block _ (cell_lt hc) ?_)).trans hc
  intro e
  obtain ⟨⟨es, cl, hb, _⟩, _⟩ := hm
  simp [World.cell?, e, hb] at hc
theorem Off.map {sb mb : Nat} {w w' : World} (h : Off sb w w') {L : List (ByteArray × Value)} (hm : MapIs str w mb L) (hne : mb ≠ sb) : MapIs str w' mb L := hm.of_block (h.block mb hm.lt hne)
theorem Off.ents {sb : Nat} {w w' : World} (h : Off sb w w') {L : List (ByteArray × Value)} (hm : MapIs str w sb L) {a : Option Addr} {n : Nat} {K : Nat → ByteArray} {X : Nat → Int} {P : Nat → Bool} {C : Nat → ByteArray} (he : EntAt w a n K X P C) : EntAt w' a n K X P C := by
  intro i hi
  obtain ⟨b, off, e, h0, h1, h2, h3⟩ := he i hi
  exact ⟨b, off, e, h.cell hm h0, h.cell hm h1, h.cell hm h2, h.cell hm h3⟩

/-- The candidates' cells. -/
theorem cand_cell {w : World} {base g cp n : Nat} {K : Nat → ByteArray} {ac : ByteArray} (h : w.ownsRow base 9 1 (.slice (some ⟨g, 0, none⟩) n cp) n (cands K ac n)) {i : Nat} (hi : i < n) : w.cell? ⟨g, i, none⟩ = some (.string (D K ac i)) := by
  obtain ⟨_, ⟨h, _⟩ | ⟨g', cap, cur, hv, hg, hh, hnc, hcm, hcs, htake⟩⟩ := h
  · cases h
  · simp only [Value.slice.injEq, Option.some.injEq, Addr.mk.injEq, and_true, true_and] at hv
    obtain ⟨rfl, rfl⟩ := hv
    have e1 : (cur.toList.take (n * 1))[i]? = some (.string (D K ac i)) := by
      rw [htake]
      simp [cands, List.getElem?_map, List.getElem?_range hi]
    rw [Nat.mul_one, List.getElem?_take, if_pos hi] at e1
    simp [World.cell?, hh]
    simpa using e1

theorem cnt_zero (E : Nat → ByteArray) (L : List (ByteArray × Value)) : cnt E L 0 = 0 := by simp [cnt, seenIn]
theorem cnt_step (E : Nat → ByteArray) (L : List (ByteArray × Value)) (hn : (L.map (·.1)).Nodup) (k : Nat) : cnt E L (k + 1) ≤ cnt E L k + 1 := by
  cases h : seenIn E k (E k) with
  | true => rw [cnt_seen E L k h]; omega
  | false =>
    cases hg : getL L (E k) with
    | none => rw [cnt_none E L k hg]; omega
    | some v => rw [cnt_new E k h L hn (by simp [hg])]; omega
theorem cnt_le_p (E : Nat → ByteArray) (L : List (ByteArray × Value)) (hn : (L.map (·.1)).Nodup) : ∀ k, cnt E L k ≤ k
  | 0 => by rw [cnt_zero]; omega
  | k + 1 => by have := cnt_step E L hn k; have := cnt_le_p E L hn k; omega

set_option maxHeartbeats 40000000 in
set_option maxRecDepth 100000 in
theorem law_walk (nr : Bool) (ea : Option Addr) (n ec : Nat) (cl ac sc pa : ByteArray) (la : Bool) (ex at_ : Int) (K : Nat → ByteArray) (X : Nat → Int) (P : Nat → Bool) (C : Nat → ByteArray) (w : World) (hent : EntAt w ea n K X P C) (hm : n ≤ maxLen) (hX : ∀ i, i < n → -9223372036854775808 ≤ X i ∧ X i ≤ 9223372036854775807) (hex : -9223372036854775808 ≤ ex ∧ ex ≤ 9223372036854775807) (hat : -9223372036854775808 ≤ at_ ∧ at_ ≤ 9223372036854775807) :
    Calls Yba.prog 4 #[.bool nr, .slice ea n ec, .string cl, .string ac, .string sc, .string pa, .bool la, .int .i64 ex, .int .i64 at_] w fun e w' => e = .returned (.bool true) ∧ Below w.heap.size w w' := by
  have HE := hide hent
  have HX := hide hX
  clear hent hX
  by_cases hbig : 65536 < n
  · have hI : (65536 : Int) < (n : Int) := by omega
    unfold maxLen at hm
    go_enter Yba.func4, Yba.ntmps4
    go_wp2_with fail
    go_ret
    exact ⟨rfl, Below.refl _ _⟩
  have hI : ¬ (65536 : Int) < (n : Int) := by omega
  have hn : n ≤ 65536 := by omega
  clear hm hbig
  have HZ0 := hide (TAt.made w 0)
  simp only [Int.zero_emod, Int.zero_ediv] at HZ0
  go_enter Yba.func4, Yba.ntmps4
  go_wp2_with fail
  refine (add_time ex _ hex.1 hex.2).mono ?_
  rintro e w1 ⟨rfl, hb1⟩
  have HB1 := hide (((Below.refl w.heap.size w).alloc (Nat.le_refl _) (.cells #[.int .u64 0, .int .i64 0, .pointer none] 56)).trans (hb1.mono (by simp)))
  have HZ1 := hide (show TAt w1 w.heap.size 0 from World.rowIs.of_block HZ0.out (hb1.block _ (by simp)))
  obtain ⟨z0, z1, z2⟩ := TAt.cells HZ1.out
  simp only [Int.zero_emod, Int.zero_ediv] at z0 z1 z2
  have zl := World.rowIs.lt HZ1.out
  have HT1 := hide (TAt.made w1 ex)
  clear hb1 HZ0
  unfold T
  go_wp2_with fail
  refine (add_time at_ _ hat.1 hat.2).mono ?_
  rintro e w2 ⟨rfl, hb2⟩
  have hk2 : Keeps (w1.alloc (.cells #[.int .u64 (ex % 1000000000), .int .i64 (ex / 1000000000), .pointer none] 56)) w2 := Keeps.of_below hb2 (Nat.le_refl _)
  have hZ2 := hk2 _ _ _ _ (World.rowIs.alloc HZ1.out _) (by decide) (by decide)
  have hT2 := hk2 _ _ _ _ HT1.out (by decide) (by decide)
  have HB2 := hide ((HB1.out.alloc HB1.out.size (.cells #[.int .u64 (ex % 1000000000), .int .i64 (ex / 1000000000), .pointer none] 56)).trans (hb2.mono (Nat.le_trans HB1.out.size (by simp))))
  obtain ⟨zb, hzb⟩ : ∃ zb, zb = w.heap.size := ⟨_, rfl⟩
  obtain ⟨eb, heb⟩ : ∃ eb, eb = w1.heap.size := ⟨_, rfl⟩
  have hcs := rowIs_of_array (w := w2.alloc (.cells #[.int .u64 (at_ % 1000000000), .int .i64 (at_ / 1000000000), .pointer none] 56)) (tokCells ac bearer sc pa enc_ rt_) 62
  have HV := hide (show Vars ((w2.alloc (.cells #[.int .u64 (at_ % 1000000000), .int .i64 (at_ / 1000000000), .pointer none] 56)).alloc (.cells (tokCells ac bearer sc pa enc_ rt_) 62)) zb eb w2.heap.size (w2.alloc (.cells #[.int .u64 (at_ % 1000000000), .int .i64 (at_ / 1000000000), .pointer none] 56)).heap.size ex at_ (tokCells ac bearer sc pa enc_ rt_) from by
    rw [hzb, heb]
    exact ⟨World.rowIs.alloc (World.rowIs.alloc hZ2 _) _, World.rowIs.alloc (World.rowIs.alloc hT2 _) _, World.rowIs.alloc (TAt.made w2 at_) _, hcs⟩)
  have HB4 := hide ((HB2.out.alloc HB2.out.size (.cells #[.int .u64 (at_ % 1000000000), .int .i64 (at_ / 1000000000), .pointer none] 56)).alloc (Nat.le_trans HB2.out.size (by simp)) (.cells (tokCells ac bearer sc pa enc_ rt_) 62))
  have e0 := (TAt.cells hT2).1
  have e1 := (TAt.cells hT2).2.1
  have e2 := (TAt.cells hT2).2.2
  have el := World.rowIs.lt hT2
  clear hk2 hZ2 hT2 hcs hb2 HB1 HT1 z0 z1 z2 HB2
  rw [← heb] at e0 e1 e2 el
  rw [← hzb, ← heb]
  have HZB := hide hzb
  have HEB := hide heb
  clear HZ1 heb hzb zl
  by_cases hnr : nr = true
  · subst hnr
    unfold T
    go_wp2_with fail
    refine (keep_nil cl ac bearer sc pa enc_ rt_ la ex at_ _).mono ?_
    rintro e w5 ⟨rfl, hb5⟩
    go_wp2_with fail
    go_ret
    exact ⟨rfl, HB4.out.trans (hb5.mono HB4.out.size)⟩
  obtain rfl : nr = false := by simpa using hnr
  clear hnr
  unfold T
  unfold tokCells at *
  go_upto_region 12 with fail
  have hsz : ∀ (w : World) o, (w.alloc o).heap.size = w.heap.size + 1 := fun w o => by simp
  rw [hsz] at HV
  have hgb4 : ((w2.alloc (.cells #[.int .u64 (at_ % 1000000000), .int .i64 (at_ / 1000000000), .pointer none] 56)).alloc (.cells #[.string ac, .string bearer, .int .i64 7, .string sc, .string pa, .string enc_, .string rt_, .nilIface] 62)).heap.size = w2.heap.size + 1 + 1 := by simp
  obtain ⟨gb, hgb⟩ : ∃ gb, gb = w2.heap.size + 1 + 1 := ⟨_, rfl⟩
  obtain ⟨tb, htb⟩ : ∃ tb, tb = w2.heap.size + 1 := ⟨_, rfl⟩
  obtain ⟨ab, hab⟩ : ∃ ab, ab = w2.heap.size := ⟨_, rfl⟩
  rw [← hgb] at hgb4
  rw [← hgb, ← htb, ← hab]
  rw [← htb, ← hab] at HV
  clear hgb htb hab hsz e0 e1 e2 el HEB
  generalize (w2.alloc (.cells #[.int .u64 (at_ % 1000000000), .int .i64 (at_ / 1000000000), .pointer none] 56)).alloc (.cells #[.string ac, .string bearer, .int .i64 7, .string sc, .string pa, .string enc_, .string rt_, .nilIface] 62) = w4 at *
  have HG5 := hide (GAt.made w4)
  rw [hgb4] at HG5
  have HB5 := hide ((Below.refl gb w4).alloc (Nat.le_of_eq hgb4.symm) (.cells #[.int .i32 0, .int .u32 0, .map none, .slice none 0 0] 70))
  have hq5 : (w4.alloc (.cells #[.int .i32 0, .int .u32 0, .map none, .slice none 0 0] 70)).heap.size = gb + 1 := by simp [hgb4]
  have HE4 := hide (HE.out.below HB4.out (Nat.le_refl _))
  have HGB := hide hgb4
  clear HE hgb4
  generalize w4.alloc (.cells #[.int .i32 0, .int .u32 0, .map none, .slice none 0 0] 70) = w5 at *
  go_upto_if 75 with fail
  go_cut [25, 26] from 75 to 105 (fun s25 s26 wc => ∃ qv, St wc gb 0 none [] qv n 0 K X ∧ Below gb w4 wc)
  case first => as_aux_lemma =>
    by_cases h0 : n = 0
    · subst h0
      go_wp2_with fail
      go_meet
      case rel => exact ⟨_, ⟨HG5.out, .inl ⟨rfl, rfl⟩, .inl ⟨rfl, rfl, rfl⟩⟩, HB5.out⟩
    · have hI0 : (0 : Int) < (n : Int) := by omega
      have hd0 : decide (0 < n) = true := by simp; omega
      have hd0' : decide ((0 : Int) < (n : Int)) = true := by simp; omega
      first | rw [hd0] | rw [hd0']
      clear hd0 hd0'
      have hmk := run_make_keys n hn w5
      have HQ6 := hide (QRow.made w5 n K X)
      go_wp2_with fail
      rw [hq5] at HQ6
      have HB6 := hide ((Below.refl (gb + 1) w5).alloc (Nat.le_of_eq hq5.symm) (.cells (keyZero n) 74))
      clear hmk
      generalize w5.alloc (.cells (keyZero n) 74) = w6 at *
      go_loopg [26] n (fun g i wr => ∃ k : Nat, k + g = n ∧ i = .int .i64 k ∧ QRow wr (gb + 1) n K X 0 k ∧ Below (gb + 1) w5 wr)
      case atStart => exact ⟨0, by omega, rfl, HQ6.out, HB6.out⟩
      case round =>
        clear HQ6 HB6
        obtain ⟨k, hk, rfl, hqr, hbr⟩ := hrel
        have HQ := hide hqr
        have HB := hide hbr
        clear hqr hbr
        by_cases hlt : k < n
        · have hIk : (k : Int) < (n : Int) := by omega
          have hb4 : Below gb w4 wr := HB5.out.trans (HB.out.mono (by omega))
          obtain ⟨b, off, rfl, c0, c1, _, _⟩ := HE4.out.below hb4 (Nat.le_of_eq HGB.out) k hlt
          have hz := TAt.cells (HV.out.below hb4 (Nat.le_of_eq HGB.out)).1
          simp only [Int.zero_emod, Int.zero_ediv] at hz
          obtain ⟨z0, z1, z2⟩ := hz
          have F0 := hide (show Five wr zb b (off + k * 4) (K k) (X k) from ⟨c0, c1, z0, z1, z2⟩)
          have bl : b < gb := by
            obtain ⟨b', off', e', c0', _⟩ := HE4.out k hlt
            simp only [Option.some.injEq, Addr.mk.injEq, and_true] at e'
            rw [e'.1, ← HGB.out]; exact cell_lt c0'
          have zl : zb < gb := by rw [← HGB.out]; exact World.rowIs.lt HV.out.1
          have ne1 : gb + 1 ≠ b := by omega
          have ne2 : gb + 1 ≠ zb := by omega
          obtain ⟨x0, x1⟩ := HX.out k hlt
          have hbs : b < wr.heap.size := cell_lt c0
          have hzs : zb < wr.heap.size := cell_lt z0
          clear hb4
          go_upto_region 17 with fail
          go_region_held3 (fun w' => w'.cell? ⟨b, off + k * 4, none⟩ = some (.string (K k)) ∧ w'.cell? ⟨b, off + k * 4 + 1, none⟩ = some (.int .i64 (X k)) ∧ w'.cell? ⟨zb, 0, none⟩ = some (.int .u64 0) ∧ w'.cell? ⟨zb, 1, none⟩ = some (.int .i64 0) ∧ w'.cell? ⟨zb, 2, none⟩ = some (.pointer none))
            (first | exact F0.out | exact S1.out | exact Five.put4 S1.out ne1 ne2 _ _ _ _)
            ((go_at_call 12; refine (add_time (X k) _ x0 x1).mono ?_; rintro e w1 ⟨rfl, hb1⟩; have hb1' : Below wr.heap.size wr w1 := ⟨hb1.os, hb1.tape, hb1.output, hb1.size, hb1.block⟩; have S1 := hide (show Five w1 zb b (off + k * 4) (K k) (X k) from ⟨cell_keep hb1' c0 (Nat.le_refl _), cell_keep hb1' c1 (Nat.le_refl _), cell_keep hb1' z0 (Nat.le_refl _), cell_keep hb1' z1 (Nat.le_refl _), cell_keep hb1' z2 (Nat.le_refl _)⟩); have HQ1 := hide (HQ.out.below hb1' HQ.out.lt); obtain ⟨fq, hfq, _⟩ := id HQ1.out; have m0 := hfq.cell (i := k * 4) (by omega); have m1 := hfq.cell (i := k * 4 + 1) (by omega); have m2 := hfq.cell (i := k * 4 + 2) (by omega); have m3 := hfq.cell (i := k * 4 + 3) (by omega); have y0 := hfq.frozen (k * 4); have y1 := hfq.frozen (k * 4 + 1); have y2 := hfq.frozen (k * 4 + 2); have y3 := hfq.frozen (k * 4 + 3); have HBB := hide (HB.out.trans (hb1'.mono (Nat.le_of_lt HQ.out.lt))); clear hfq hb1 hb1'; unfold T))
          have HQ2 := hide (HQ1.out.put)
          have HB2 := hide (put4_below HBB.out (Nat.le_refl _) k (K k) (X k % 1000000000) (X k / 1000000000))
          clear m0 m1 m2 m3 y0 y1 y2 y3 S1 HQ1 HBB F0 c0 c1 z0 z1 z2
          go_wp2_with fail
          go_roundg (n - (k + 1))
          case measure => omega
          case rel => exact ⟨k + 1, by omega, by go_num, HQ2.out, HB2.out⟩
        · obtain rfl : n = k := by omega
          have HGr := hide (HG5.out.of_block (HB.out.block gb (by omega)))
          obtain ⟨_, _, g2, g3⟩ := HGr.out.cells
          have f3 := HGr.out.frozen 3
          have gl := HGr.out.lt
          have HF := hide (show St (wr.setCell ⟨gb, 3, none⟩ (.slice (some ⟨gb + 1, 0, none⟩) n n)) gb 0 none [] (.slice (some ⟨gb + 1, 0, none⟩) n n) n 0 K X from ⟨HGr.out.setQ _, .inl ⟨rfl, rfl⟩, .inr ⟨gb + 1, 0, by omega, by omega, fun _ => by omega, by simp, by omega, HQ.out.of_block (blk_set_other _ _ _ _ (show gb + 1 ≠ gb by omega))⟩⟩)
          have HBF := hide ((HB5.out.trans (HB.out.mono (by omega))).setCell (p := ⟨gb, 3, none⟩) (Nat.le_refl _) (.slice (some ⟨gb + 1, 0, none⟩) n n))
          clear HGr HQ HB
          go_wp2_with fail
          go_meet
          case rel => exact ⟨_, HF.out, HBF.out⟩
  case rest =>
    obtain ⟨qv, hst5, hbc⟩ := hcut
    have HS5 := hide hst5
    have HBC := hide hbc
    clear hst5 hbc HG5 HB5 hq5
    go_wp2_with fail
    go_loopg [27] n (fun g i wr => ∃ (k : Nat) (mv : Option Nat), k + g = n ∧ i = .int .i64 k ∧ St wr gb 0 mv (vL K X P C k) qv n 0 K X ∧ Below gb w4 wr)
    case atStart => exact ⟨0, none, by omega, rfl, HS5.out, HBC.out⟩
    case round =>
      clear HS5 HBC
      obtain ⟨k, mv, hk, rfl, hst, hbr⟩ := hrel
      have HS := hide hst
      have HB := hide hbr
      clear hst hbr
      by_cases hlt : k < n
      · as_aux_lemma =>
          have hIk : (k : Int) < (n : Int) := by omega
          obtain ⟨b, off, rfl, c0, c1, c2, c3⟩ := HE4.out.below HB.out (Nat.le_of_eq HGB.out) k hlt
          cases hp : P k with
          | false =>
            rw [hp] at c2
            have HVL := hide (show vL K X P C (k + 1) = vL K X P C k from by simp [vL, hp])
            go_wp2_with fail
            go_roundg (n - (k + 1))
            case measure => omega
            case rel => exact ⟨k + 1, mv, by omega, by go_num, by rw [HVL.out]; exact HS.out, HB.out⟩
          | true =>
            rw [hp] at c2
            have HVL := hide (show vL K X P C (k + 1) = putL (vL K X P C k) (K k) (.agg #[.string (C k), .string ⟨#[]⟩, .string ⟨#[]⟩, .bool false, .int .u64 (X k % 1000000000), .int .i64 (X k / 1000000000), .pointer none]) from by simp [vL, hp, ent, G]; rfl)
            obtain ⟨_, _, g2, g3⟩ := HS.out.1.cells
            have f2 := HS.out.1.frozen 2
            have gl := HS.out.1.lt
            have hme := fun w r => run_eql_map_nil (P := Yba.prog) w 65 9 76 r Yba.underlying65
            go_upto_if 122 with fail
            go_cut [] from 106 to 150 (fun wc2 => ∃ mb, St wc2 gb 0 (some mb) (vL K X P C k) qv n 0 K X ∧ Below gb w4 wc2)
            case first =>
              cases mv with
              | none =>
                have hmk := fun w => run_makeMap (P := Yba.prog) 65 w
                have HS2 := hide (HS.out.make)
                have HB2 := hide ((HB.out.setCell (p := ⟨gb, 2, none⟩) (Nat.le_refl _) (.map (some wr.heap.size))).alloc (by simp [World.setCell]; omega) (.map #[] 0))
                go_wp2_with fail
                go_meet
                case rel => exact ⟨_, HS2.out, HB2.out⟩
              | some mb =>
                go_wp2_with fail
                go_meet
                case rel => exact ⟨mb, HS.out, HB.out⟩
            case rest =>
              clear c0 c1 c2 c3 g2 g3 f2 gl HS HB hme
              obtain ⟨mb, hst2, hb2⟩ := hcut
              have HS := hide hst2
              have HB := hide hb2
              clear hst2 hb2
              obtain ⟨b', off', he', c0, c1, _, c3⟩ := HE4.out.below HB.out (Nat.le_of_eq HGB.out) k hlt
              obtain ⟨rfl, rfl⟩ : b = b' ∧ off = off' := by simpa using he'
              clear he'
              have hz := TAt.cells (HV.out.below HB.out (Nat.le_of_eq HGB.out)).1
              simp only [Int.zero_emod, Int.zero_ediv] at hz
              obtain ⟨z0, z1, z2⟩ := hz
              obtain ⟨_, _, g2, g3⟩ := HS.out.1.cells
              obtain ⟨x0, x1⟩ := HX.out k hlt
              clear g3
              go_upto_region 25 with fail
              go_region_held3 (fun w' => w'.cell? ⟨gb, 2, none⟩ = some (.map (some mb)) ∧ w'.cell? ⟨b, off + k * 4, none⟩ = some (.string (K k)) ∧ w'.cell? ⟨b, off + k * 4 + 1, none⟩ = some (.int .i64 (X k)) ∧ w'.cell? ⟨b, off + k * 4 + 3, none⟩ = some (.string (C k)) ∧ w'.cell? ⟨zb, 0, none⟩ = some (.int .u64 0) ∧ w'.cell? ⟨zb, 1, none⟩ = some (.int .i64 0) ∧ w'.cell? ⟨zb, 2, none⟩ = some (.pointer none))
                (first | exact ⟨g2, c0, c1, c3, z0, z1, z2⟩ | exact S1.out | exact S3.out)
                ((go_at_call 12; refine (add_time (X k) _ x0 x1).mono ?_; rintro e w1 ⟨rfl, hb1⟩; have hb1' : Below wc.heap.size wc w1 := ⟨hb1.os, hb1.tape, hb1.output, hb1.size, hb1.block⟩; have hs1 : w1.cell? ⟨gb, 2, none⟩ = some (.map (some mb)) ∧ w1.cell? ⟨b, off + k * 4, none⟩ = some (.string (K k)) ∧ w1.cell? ⟨b, off + k * 4 + 1, none⟩ = some (.int .i64 (X k)) ∧ w1.cell? ⟨b, off + k * 4 + 3, none⟩ = some (.string (C k)) ∧ w1.cell? ⟨zb, 0, none⟩ = some (.int .u64 0) ∧ w1.cell? ⟨zb, 1, none⟩ = some (.int .i64 0) ∧ w1.cell? ⟨zb, 2, none⟩ = some (.pointer none) := ⟨cell_keep hb1' g2 (Nat.le_refl _), cell_keep hb1' c0 (Nat.le_refl _), cell_keep hb1' c1 (Nat.le_refl _), cell_keep hb1' c3 (Nat.le_refl _), cell_keep hb1' z0 (Nat.le_refl _), cell_keep hb1' z1 (Nat.le_refl _), cell_keep hb1' z2 (Nat.le_refl _)⟩; have S1 := hide hs1; obtain ⟨w3, hupd, hst3, hb3, hc3⟩ := (HS.out.below hb1' (Nat.le_refl _)).put (K k) (.agg #[.string (C k), .string ⟨#[]⟩, .string ⟨#[]⟩, .bool false, .int .u64 (X k % 1000000000), .int .i64 (X k / 1000000000), .pointer none]); have S3 := hide (show w3.cell? ⟨gb, 2, none⟩ = some (.map (some mb)) ∧ w3.cell? ⟨b, off + k * 4, none⟩ = some (.string (K k)) ∧ w3.cell? ⟨b, off + k * 4 + 1, none⟩ = some (.int .i64 (X k)) ∧ w3.cell? ⟨b, off + k * 4 + 3, none⟩ = some (.string (C k)) ∧ w3.cell? ⟨zb, 0, none⟩ = some (.int .u64 0) ∧ w3.cell? ⟨zb, 1, none⟩ = some (.int .i64 0) ∧ w3.cell? ⟨zb, 2, none⟩ = some (.pointer none) from ⟨hc3 _ _ hs1.1, hc3 _ _ hs1.2.1, hc3 _ _ hs1.2.2.1, hc3 _ _ hs1.2.2.2.1, hc3 _ _ hs1.2.2.2.2.1, hc3 _ _ hs1.2.2.2.2.2.1, hc3 _ _ hs1.2.2.2.2.2.2⟩); have HS3 := hide hst3; have HB3 := hide ((HB.out.trans (hb1'.mono (Nat.le_of_lt HS.out.1.lt))).trans hb3); clear hs1 hst3 hb3 hc3 hb1 hb1'; unfold T))
              clear c0 c1 c3 z0 z1 z2 g2 S1 S3 HS HB
              go_wp2_with fail
              go_roundg (n - (k + 1))
              case measure => omega
              case rel => exact ⟨k + 1, some mb, by omega, by go_num, by rw [HVL.out]; exact HS3.out, HB3.out⟩
      · obtain rfl : n = k := by omega
        have hv := HV.out.below HB.out (Nat.le_of_eq HGB.out)
        obtain ⟨e0, e1, e2⟩ := TAt.cells hv.2.1
        obtain ⟨a0, a1, a2⟩ := TAt.cells hv.2.2.1
        have t0 : wr.cell? ⟨tb, 0, none⟩ = some (.string ac) := hv.2.2.2.cell (i := 0) (by simp)
        have t1 : wr.cell? ⟨tb, 1, none⟩ = some (.string bearer) := hv.2.2.2.cell (i := 1) (by simp)
        have t2 : wr.cell? ⟨tb, 2, none⟩ = some (.int .i64 7) := hv.2.2.2.cell (i := 2) (by simp)
        have t3 : wr.cell? ⟨tb, 3, none⟩ = some (.string sc) := hv.2.2.2.cell (i := 3) (by simp)
        have t4 : wr.cell? ⟨tb, 4, none⟩ = some (.string pa) := hv.2.2.2.cell (i := 4) (by simp)
        have t5 : wr.cell? ⟨tb, 5, none⟩ = some (.string enc_) := hv.2.2.2.cell (i := 5) (by simp)
        have t6 : wr.cell? ⟨tb, 6, none⟩ = some (.string rt_) := hv.2.2.2.cell (i := 6) (by simp)
        have t7 : wr.cell? ⟨tb, 7, none⟩ = some .nilIface := hv.2.2.2.cell (i := 7) (by simp)
        clear hv
        go_wp2_with fail
        refine (keep_spec gb n mv (vL K X P C n) qv K X cl ac bearer sc pa enc_ rt_ la ex at_ _ HS.out hn).mono ?_
        rintro e w7 ⟨rfl, hkept, hb7⟩
        have HK7 := hide hkept
        have HB7 := hide (HB.out.trans hb7)
        clear hkept hb7 HS HB e0 e1 e2 a0 a1 a2 t0 t1 t2 t3 t4 t5 t6 t7
        obtain ⟨mb, q, cap, hg7, hm7, hgm, hgq, hks7, hkn7⟩ := HK7.out
        have d0 := hg7.cells.1
        have y0 := hg7.frozen 0
        have d0' : (w7.setCell ⟨gb, 0, none⟩ (.int .i32 1)).cell? ⟨gb, 0, none⟩ = some (.int .i32 1) := World.cell?_setCell_same _ _ _ d0
        have y0' : (w7.setCell ⟨gb, 0, none⟩ (.int .i32 1)).frozen? ⟨gb, 0, none⟩ = false := by rw [World.frozen?_setCell]; exact y0
        obtain ⟨c, hc⟩ : ∃ c, c = old X at_ n 0 := ⟨_, rfl⟩
        have hcn : c ≤ n := by rw [hc]; exact old_le X at_ n 0
        rw [← hc] at hg7 hm7 hks7 hkn7
        have HC := hide hc
        have ne1 : mb ≠ gb := by omega
        have HG8 := hide ((hg7.setSt 1).setSt 0)
        have HM8 := hide (show MapIs str ((w7.setCell ⟨gb, 0, none⟩ (.int .i32 1)).setCell ⟨gb, 0, none⟩ (.int .i32 0)) mb (V K X P C n c ac (G cl sc pa la ex)) from hm7.of_block ((blk_set_other _ _ _ _ ne1).trans (blk_set_other _ _ _ _ ne1)))
        have HKS8 := hide (show ∀ i, i < n - c → KeyAt ((w7.setCell ⟨gb, 0, none⟩ (.int .i32 1)).setCell ⟨gb, 0, none⟩ (.int .i32 0)) q i (K (c + i)) (X (c + i)) from fun i hi => ((hks7 i hi).setG (by omega) _ _).setG (by omega) _ _)
        have HKN8 := hide (show KeyAt ((w7.setCell ⟨gb, 0, none⟩ (.int .i32 1)).setCell ⟨gb, 0, none⟩ (.int .i32 0)) q (n - c) ac ex from (hkn7.setG (by omega) _ _).setG (by omega) _ _)
        have HB8 := hide ((HB7.out.setCell (p := ⟨gb, 0, none⟩) (Nat.le_refl _) (.int .i32 1)).setCell (p := ⟨gb, 0, none⟩) (Nat.le_refl _) (.int .i32 0))
        clear hg7 hm7 hks7 hkn7 hc HK7 HB7 hgm hgq
        go_wp2_with fail
        refine (trylock_free gb 0 _ d0 y0).mono ?_
        rintro e w8 ⟨rfl, rfl⟩
        go_wp2_with fail
        refine (unlock_held Yba.muLib ⟨gb, 0, none⟩ _ d0' y0').mono ?_
        rintro e w8 ⟨rfl, rfl⟩
        clear d0 y0 d0' y0'
        generalize (w7.setCell ⟨gb, 0, none⟩ (.int .i32 1)).setCell ⟨gb, 0, none⟩ (.int .i32 0) = w8 at *
        have HE8 := hide (HE4.out.below HB8.out (Nat.le_of_eq HGB.out))
        have HV8 := hide (HV.out.below HB8.out (Nat.le_of_eq HGB.out))
        have HBW := hide (HB4.out.trans (HB8.out.mono (by rw [← HGB.out]; exact HB4.out.size)))
        clear HE4 HV HB8 HB4 HGB
        go_upto_block 4 with fail
        go_cut [28] from 167 to 181 (fun v wc => v = .int .i64 c ∧ w8 = wc)
        case first =>
          go_wp2_with fail
          go_loopg [28] n (fun g i wr => ∃ p : Nat, g = n - p ∧ p ≤ n ∧ i = .int .i64 p ∧ p + old X at_ (n - p) p = old X at_ n 0 ∧ w8 = wr)
          case atStart => exact ⟨0, by omega, by omega, rfl, by simp, rfl⟩
          case round =>
            obtain ⟨p, rfl, hpn, rfl, hold, rfl⟩ := hrel
            have HO := hide hold
            clear hold
            by_cases hlt : p < n
            · have hIk : (p : Int) < (n : Int) := by omega
              obtain ⟨b, off, rfl, c0, c1, c2, c3⟩ := HE8.out p hlt
              by_cases hexp : X p ≤ at_
              · have HOS := hide (old_step hlt hexp)
                go_wp2_with fail
                go_roundg (n - (p + 1))
                case measure => omega
                case rel => exact ⟨p + 1, rfl, by omega, by go_num, by have := HO.out; have := HOS.out; omega, rfl⟩
              · have HOS := hide (old_stop hlt hexp)
                go_wp2_with fail
                go_meet
                case rel => exact ⟨by have := HO.out; have := HOS.out; have := HC.out; rw [show p = c from by omega], rfl⟩
            · have HOS := hide (old_end (X := X) (at_ := at_) hlt)
              go_wp2_with fail
              go_meet
              case rel => exact ⟨by have := HO.out; have := HOS.out; have := HC.out; rw [show p = c from by omega], rfl⟩
        case rest =>
          obtain ⟨rfl, rfl⟩ := hcut
          obtain ⟨_, _, g2, g3⟩ := HG8.out.cells
          have hnc : ((n - c : Nat) : Int) = (n : Int) - (c : Int) := by omega
          have gl := HG8.out.lt
          go_wp2_with fail
          clear g2 g3
          go_loopg [30, 31] (n - c) (fun g s30 s31 wr => ∃ p : Nat, p + g = n - c ∧ s30 = .int .i64 ((c : Int) + (p : Int)) ∧ Below w8.heap.size w8 wr)
          case atStart => exact ⟨0, by omega, by simp, Below.refl _ _⟩
          case round =>
            obtain ⟨p, hp, rfl, hbr⟩ := hrel
            have HB := hide hbr
            clear hbr
            by_cases hlt : p < n - c
            · as_aux_lemma =>
                have hIk : (c : Int) + (p : Int) < (n : Int) := by omega
                have hT : ((c : Int) + (p : Int)).toNat = c + p := by omega
                have hI0 : (0 : Int) ≤ (c : Int) + (p : Int) := by omega
                have hIn : ¬ ((c : Int) + (p : Int) < 0) := by omega
                have hIm : ¬ ((n : Int) ≤ (c : Int) + (p : Int)) := by omega
                obtain ⟨b, off, rfl, c0, c1, _, _⟩ := HE8.out.below HB.out (Nat.le_refl _) (c + p) (by omega)
                obtain ⟨k0, k1, k2, k3⟩ := HKS8.out p hlt
                have k0 := cell_keep HB.out k0 (Nat.le_refl _)
                have k1 := cell_keep HB.out k1 (Nat.le_refl _)
                have k2 := cell_keep HB.out k2 (Nat.le_refl _)
                have k3 := cell_keep HB.out k3 (Nat.le_refl _)
                have hz := TAt.cells (HV8.out.below HB.out (Nat.le_refl _)).1
                simp only [Int.zero_emod, Int.zero_ediv] at hz
                obtain ⟨z0, z1, z2⟩ := hz
                obtain ⟨x0, x1⟩ := HX.out (c + p) (by omega)
                have hbs : b < wr.heap.size := cell_lt c0
                have hzs : zb < wr.heap.size := cell_lt z0
                go_upto_region 40 with fail
                have hbk : Below wr.heap.size wr (wr.alloc (.cells #[.string (K (c + p)), .int .u64 (X (c + p) % 1000000000), .int .i64 (X (c + p) / 1000000000), .pointer none] 74)) := (Below.refl _ _).alloc (Nat.le_refl _) _
                have N0 := hide (show Nine (wr.alloc (.cells #[.string (K (c + p)), .int .u64 (X (c + p) % 1000000000), .int .i64 (X (c + p) / 1000000000), .pointer none] 74)) wr.heap.size zb b (off + (c + p) * 4) (K (c + p)) (X (c + p)) from ⟨by simp, by simp, by simp, by simp, cell_keep hbk c0 (Nat.le_refl _), cell_keep hbk c1 (Nat.le_refl _), cell_keep hbk z0 (Nat.le_refl _), cell_keep hbk z1 (Nat.le_refl _), cell_keep hbk z2 (Nat.le_refl _)⟩)
                have HBk := hide (HB.out.trans (hbk.mono HB.out.size))
                clear c0 c1 k0 k1 k2 k3 z0 z1 z2 hbs hzs hbk HB
                generalize wr.alloc (.cells #[.string (K (c + p)), .int .u64 (X (c + p) % 1000000000), .int .i64 (X (c + p) / 1000000000), .pointer none] 74) = wk at *
                obtain ⟨kb, hkb⟩ : ∃ kb, kb = wr.heap.size := ⟨_, rfl⟩
                rw [← hkb] at N0
                rw [← hkb]
                clear hkb
                have q0 := N0.out
                unfold Nine at q0
                obtain ⟨q0, q1, q2, q3, q4, q5, q6, q7, q8⟩ := q0
                go_region_held3 (fun w => w.cell? ⟨kb, 0, none⟩ = some (.string (K (c + p))) ∧ w.cell? ⟨kb, 1, none⟩ = some (.int .u64 (X (c + p) % 1000000000)) ∧ w.cell? ⟨kb, 2, none⟩ = some (.int .i64 (X (c + p) / 1000000000)) ∧ w.cell? ⟨kb, 3, none⟩ = some (.pointer none) ∧ w.cell? ⟨b, off + (c + p) * 4, none⟩ = some (.string (K (c + p))) ∧ w.cell? ⟨b, off + (c + p) * 4 + 1, none⟩ = some (.int .i64 (X (c + p))) ∧ w.cell? ⟨zb, 0, none⟩ = some (.int .u64 0) ∧ w.cell? ⟨zb, 1, none⟩ = some (.int .i64 0) ∧ w.cell? ⟨zb, 2, none⟩ = some (.pointer none))
                  (first | exact N0.out | exact N1.out | exact N2.out)
                  ((first
                    | (go_at_call 12; refine (add_time (X (c + p)) _ x0 x1).mono ?_; rintro e w1 ⟨rfl, hb1⟩; have hb1' : Below wk.heap.size wk w1 := ⟨hb1.os, hb1.tape, hb1.output, hb1.size, hb1.block⟩; have N1 := hide (N0.out.below hb1' (Nat.le_refl _)); have HB1 := hide (HBk.out.trans (hb1'.mono HBk.out.size)); clear hb1 hb1'; unfold T)
                    | (go_at_call 14; refine (equal_same (X (c + p)) _).mono ?_; rintro e w2 ⟨rfl, hb2⟩; have N2 := hide (N1.out.below hb2 (Nat.le_refl _)); have HB2 := hide (HB1.out.trans (hb2.mono HB1.out.size)); clear hb2)))
                clear q0 q1 q2 q3 q4 q5 q6 q7 q8 N0 N1 N2 HBk HB1
                go_wp2_with fail
                go_roundg (n - c - (p + 1))
                case measure => omega
                case rel => exact ⟨p + 1, by omega, by go_num, HB2.out⟩
            · obtain rfl : p = n - c := by omega
              obtain ⟨k0, k1, k2, k3⟩ := HKN8.out
              have k0 := cell_keep HB.out k0 (Nat.le_refl _)
              have k1 := cell_keep HB.out k1 (Nat.le_refl _)
              have k2 := cell_keep HB.out k2 (Nat.le_refl _)
              have k3 := cell_keep HB.out k3 (Nat.le_refl _)
              obtain ⟨e0, e1, e2⟩ := TAt.cells (HV8.out.below HB.out (Nat.le_refl _)).2.1
              have hT : ((n : Int) - (c : Int)).toNat = n - c := by omega
              have hI0 : (0 : Int) ≤ (n : Int) - (c : Int) := by omega
              have hIn : ¬ ((n : Int) - (c : Int) < 0) := by omega
              have hIm : ¬ ((n : Int) - (c : Int) + 1 ≤ (n : Int) - (c : Int)) := by omega
              obtain ⟨_, _, g2, _⟩ := HG8.out.cells
              have g2 := cell_keep HB.out g2 (Nat.le_refl _)
              have hels : eb < wr.heap.size := cell_lt e0
              have hgls : gb < wr.heap.size := cell_lt g2
              have hqls : q < wr.heap.size := cell_lt k0
              have hme := fun w r => run_eql_map_nil (P := Yba.prog) w 65 9 76 r Yba.underlying65
              go_wp2_with fail
              refine (equal_same ex _).mono ?_
              rintro e w9 ⟨rfl, hb9⟩
              have hbk : Below wr.heap.size wr w9 := ((Below.refl _ _).alloc (Nat.le_refl _) _).trans (hb9.mono (by simp))
              have g2' := cell_keep hbk g2 (Nat.le_refl _)
              have HB9 := hide (HB.out.trans (hbk.mono HB.out.size))
              clear hb9 hbk k0 k1 k2 k3 e0 e1 e2 g2 hels hgls hqls HB hT hI0 hIn hIm
              have hmk := fun w => run_makeMap (P := Yba.prog) 78 w
              go_upto_region 48 with fail
              have HE9 := hide (HE8.out.below HB9.out (Nat.le_refl _))
              have HV9 := hide (HV8.out.below HB9.out (Nat.le_refl _))
              have HG9 := hide (HG8.out.of_block (HB9.out.block _ HG8.out.lt))
              have HM9 := hide (HM8.out.below HB9.out HM8.out.lt)
              have HW9 := hide (HBW.out.trans (HB9.out.mono HBW.out.size))
              have HMr := hide (MapIs.made (enc := str) w9)
              have HBr := hide ((Below.refl w9.heap.size w9).alloc (Nat.le_refl _) (.map #[] 0))
              clear HE8 HV8 HG8 HM8 HBW HKS8 HKN8 HB9 g2' gl
              generalize w9.alloc (.map #[] 0) = w10 at *
              obtain ⟨rb, hrb⟩ : ∃ rb, rb = w9.heap.size := ⟨_, rfl⟩
              rw [← hrb] at HMr HBr
              rw [← hrb]
              have HRB := hide hrb
              clear hrb
              go_cut [30, 31, 32, 34] from 49 to 252 (fun _ _ _ i wc => i = .int .i64 0 ∧ w10 = wc)
              case first =>
                go_wp2_with fail
                go_meet
                case rel => exact ⟨rfl, rfl⟩
              case rest =>
                obtain ⟨rfl, rfl⟩ := hcut
                go_wp2_with fail
                go_loopg [34] c (fun g i wr => ∃ p : Nat, p + g = c ∧ i = .int .i64 p ∧ MapIs str wr rb (rL K p) ∧ Below rb w9 wr)
                case atStart => exact ⟨0, by omega, rfl, HMr.out, HBr.out⟩
                case round =>
                  clear HMr HBr
                  obtain ⟨p, hp, rfl, hmr, hbr⟩ := hrel
                  have HMr := hide hmr
                  have HBr := hide hbr
                  clear hmr hbr
                  by_cases hlt : p < c
                  · have hIk : (p : Int) < (c : Int) := by omega
                    have hIn : (p : Int) < (n : Int) := by omega
                    obtain ⟨b, off, rfl, c0, _, _, _⟩ := HE9.out.below HBr.out (Nat.le_of_eq HRB.out.symm) p (by omega)
                    obtain ⟨w3, hupd, hm3, ht3⟩ := HMr.out.update Yba.underlying78 (decides_str wr _ (K p)) (bits_str (K p)) (.bool true)
                    have HM3 := hide hm3
                    have HB3 := hide (HBr.out.trans (ht3.below (Nat.le_refl _)))
                    clear hm3 ht3 HMr HBr
                    go_wp2_with fail
                    go_roundg (c - (p + 1))
                    case measure => omega
                    case rel => exact ⟨p + 1, by omega, by go_num, HM3.out, HB3.out⟩
                  · obtain rfl : c = p := by omega
                    have hmk2 := fun w => run_makeMap (P := Yba.prog) 79 w
                    have HE10 := hide (HE9.out.below HBr.out (Nat.le_of_eq HRB.out.symm))
                    have HV10 := hide (HV9.out.below HBr.out (Nat.le_of_eq HRB.out.symm))
                    have HG10 := hide (HG9.out.of_block (HBr.out.block _ (by rw [HRB.out]; exact HG9.out.lt)))
                    have HM10 := hide (HM9.out.below HBr.out (by rw [HRB.out]; exact HM9.out.lt))
                    have HW10 := hide (HW9.out.trans (HBr.out.mono (by rw [HRB.out]; exact HW9.out.size)))
                    clear HE9 HV9 HG9 HM9 HW9 HRB HBr
                    go_upto_region 53 with fail
                    have HMl := hide (MapIs.made (enc := str) wr)
                    have HBl := hide ((Below.refl wr.heap.size wr).alloc (Nat.le_refl _) (.map #[] 0))
                    generalize wr.alloc (.map #[] 0) = w11 at *
                    obtain ⟨lb, hlb⟩ : ∃ lb, lb = wr.heap.size := ⟨_, rfl⟩
                    rw [← hlb] at HMl HBl
                    rw [← hlb]
                    have HLB := hide hlb
                    clear hlb
                    go_wp2_with fail
                    go_loopg [36] n (fun g i w12 => ∃ p : Nat, p + g = n ∧ i = .int .i64 p ∧ MapIs str w12 lb (lL K P p) ∧ Below lb wr w12)
                    case atStart => exact ⟨0, by omega, rfl, HMl.out, HBl.out⟩
                    case round =>
                      clear HMl HBl
                      obtain ⟨p, hp, rfl, hmr, hbr⟩ := hrel
                      have HMl := hide hmr
                      have HBl := hide hbr
                      clear hmr hbr
                      by_cases hlt : p < n
                      · as_aux_lemma =>
                          have hIk : (p : Int) < (n : Int) := by omega
                          obtain ⟨b, off, rfl, c0, _, c2, _⟩ := HE10.out.below HBl.out (Nat.le_of_eq HLB.out.symm) p hlt
                          cases hp2 : P p with
                          | false =>
                            rw [hp2] at c2
                            have HVL := hide (show lL K P (p + 1) = lL K P p from by simp [lL, hp2])
                            go_wp2_with fail
                            go_roundg (n - (p + 1))
                            case measure => omega
                            case rel => exact ⟨p + 1, by omega, by go_num, by rw [HVL.out]; exact HMl.out, HBl.out⟩
                          | true =>
                            rw [hp2] at c2
                            have HVL := hide (show lL K P (p + 1) = putL (lL K P p) (K p) (.int .i64 (p : Nat)) from by simp [lL, hp2])
                            obtain ⟨w3, hupd, hm3, ht3⟩ := HMl.out.update Yba.underlying79 (decides_str _ _ (K p)) (bits_str (K p)) (.int .i64 (p : Nat))
                            have HM3 := hide hm3
                            have HB3 := hide (HBl.out.trans (ht3.below (Nat.le_refl _)))
                            clear hm3 ht3 HMl HBl
                            go_wp2_with fail
                            go_roundg (n - (p + 1))
                            case measure => omega
                            case rel => exact ⟨p + 1, by omega, by go_num, by rw [HVL.out]; exact HM3.out, HB3.out⟩
                      · obtain rfl : n = p := by omega
                        have HE12 := hide (HE10.out.below HBl.out (Nat.le_of_eq HLB.out.symm))
                        have HV12 := hide (HV10.out.below HBl.out (Nat.le_of_eq HLB.out.symm))
                        have HG12 := hide (HG10.out.of_block (HBl.out.block _ (by rw [HLB.out]; exact HG10.out.lt)))
                        have HM12 := hide (HM10.out.below HBl.out (by rw [HLB.out]; exact HM10.out.lt))
                        have HR12 := hide (HMr.out.below HBl.out (by rw [HLB.out]; exact HMr.out.lt))
                        have HW12 := hide (HW10.out.trans (HBl.out.mono (by rw [HLB.out]; exact HW10.out.size)))
                        clear HE10 HV10 HG10 HM10 HMr HW10 HLB HBl
                        have hmk3 := fun w => run_makeMap (P := Yba.prog) 78 w
                        go_upto_region 60 with fail
                        have HMs := hide (MapIs.made (enc := str) wr)
                        have HBs := hide ((Below.refl wr.heap.size wr).alloc (Nat.le_refl _) (.map #[] 0))
                        have hsz : (wr.alloc (.map #[] 0)).heap.size = wr.heap.size + 1 := by simp
                        have HOs := hide (cands_own (wr.alloc (.map #[] 0)) n hn)
                        have hrow := run_make_cands n hn (wr.alloc (.map #[] 0))
                        rw [hsz] at HOs hrow
                        generalize wr.alloc (.map #[] 0) = w13 at *
                        obtain ⟨sb, hsb⟩ : ∃ sb, sb = wr.heap.size := ⟨_, rfl⟩
                        rw [← hsb] at HMs HBs hsz HOs hrow
                        rw [← hsb]
                        have HSB := hide hsb
                        clear hsb
                        have HMs2 := hide (HMs.out.of_block (w' := w13.alloc (.cells (madeCells #[.string ByteArray.empty] (n + 1)) 9)) (heap_alloc_old w13 _ (by rw [hsz]; omega)))
                        have HBs2 := hide (HBs.out.alloc (by rw [hsz]; omega) (.cells (madeCells #[.string ByteArray.empty] (n + 1)) 9))
                        have hsz2 : (w13.alloc (.cells (madeCells #[.string ByteArray.empty] (n + 1)) 9)).heap.size = sb + 1 + 1 := by simp [hsz]
                        have HSZ2 := hide hsz2
                        clear HMs HBs
                        go_upto_region 61 with fail
                        clear hsz hsz2
                        clear hrow
                        generalize w13.alloc (.cells (madeCells #[.string ByteArray.empty] (n + 1)) 9) = w14 at *
                        obtain ⟨i0, hi, hzz0, hzz1, hzz2⟩ := info_parts Yba.info9
                        go_wp2_with (at_builtin; refine wpList_append_own _ rfl (.tmp 288) (.tmp 290) 80 rfl (sb + 1) 9 i0 (.string ByteArray.empty) 1 16 Yba.underlying80 hi hzz0 hzz1 hzz2 rfl (by omega) (.slice (some ⟨sb + 1, 0, none⟩) 0 (n + 1)) 0 [] rfl (HOs.out.alloc _) ⟨w14.heap.size, 0, none⟩ 1 1 [.string ac] rfl rfl (World.news_of_block (cs := #[.string ac]) (t := 9) (fr := (0, 0)) (heap_alloc_new w14 _)) (by simp [Value.oneCell']) (by unfold maxLen; omega) (by omega) (by have := HSZ2.out; simp; omega) ?_; intro v1 w15 hown hgrow _)
                        have hbb := own_below (HOs.out.alloc (.cells #[.string ac] 9)) hgrow (by have := HSZ2.out; simp; omega)
                        have hb15 : Below (sb + 1) w14 w15 := ((Below.refl _ w14).alloc (by have := HSZ2.out; omega) _).trans hbb
                        have HM15 := hide (HMs2.out.below hb15 (by omega))
                        have HB15 := hide (HBs2.out.trans (hb15.mono (by omega)))
                        have HO15 := hide (show w15.ownsRow (sb + 1) 9 1 v1 (0 + 1) (cands K ac (0 + 1)) from by simpa [cands, D] using hown)
                        have hs15 : sb + 1 ≤ w15.heap.size := by have := hb15.size; have := HSZ2.out; omega
                        clear hown hgrow hbb hb15 HMs2 HBs2 HOs HSZ2 hmk hmk2 hmk3
                        go_loopg [39, 40] n (fun g v i wr' => ∃ p : Nat, p + g = n ∧ i = .int .i64 p ∧ wr'.ownsRow (sb + 1) 9 1 v (p + 1) (cands K ac (p + 1)) ∧ MapIs str wr' sb [] ∧ Below sb wr wr' ∧ sb + 1 ≤ wr'.heap.size)
                        case atStart => exact ⟨0, by omega, rfl, HO15.out, HM15.out, HB15.out, hs15⟩
                        case round =>
                          clear HO15 HM15 HB15 hs15
                          obtain ⟨p, hp, rfl, hor, hmr, hbr, hsr⟩ := hrel
                          obtain ⟨cg, ccp, rfl⟩ := own_form hor (by omega)
                          have HOr := hide hor
                          have HMs := hide hmr
                          have HBs := hide hbr
                          clear hor hmr hbr
                          by_cases hlt : p < n
                          · as_aux_lemma =>
                              have hIk : (p : Int) < (n : Int) := by omega
                              obtain ⟨b, off, rfl, c0, _, _, _⟩ := HE12.out.below HBs.out (Nat.le_of_eq HSB.out.symm) p hlt
                              go_wp2_with (at_builtin; refine wpList_append_own _ rfl (.tmp 298) (.tmp 304) 80 rfl (sb + 1) 9 i0 (.string ByteArray.empty) 1 16 Yba.underlying80 hi hzz0 hzz1 hzz2 rfl (by omega) (.slice (some ⟨cg, 0, none⟩) (p + 1) ccp) (p + 1) (cands K ac (p + 1)) rfl (HOr.out.alloc _) ⟨wr.heap.size, 0, none⟩ 1 1 [.string (K p)] rfl rfl (World.news_of_block (cs := #[.string (K p)]) (t := 9) (fr := (0, 0)) (heap_alloc_new wr _)) (by simp [Value.oneCell']) (by unfold maxLen; omega) (by omega) (by simp; omega) ?_; intro v2 w16 hown hgrow _)
                              have hbb := own_below (HOr.out.alloc (.cells #[.string (K p)] 9)) hgrow (by simp; omega)
                              have hb16 : Below (sb + 1) wr w16 := ((Below.refl _ wr).alloc hsr _).trans hbb
                              have HM16 := hide (HMs.out.below hb16 (by omega))
                              have HB16 := hide (HBs.out.trans (hb16.mono (by omega)))
                              have HO16 := hide (show w16.ownsRow (sb + 1) 9 1 v2 (p + 1 + 1) (cands K ac (p + 1 + 1)) from by rw [← cands_snoc]; simpa [D] using hown)
                              have hs16 : sb + 1 ≤ w16.heap.size := Nat.le_trans hsr hb16.size
                              clear hown hgrow hbb hb16 HMs HBs HOr
                              go_wp2_with fail
                              go_roundg (n - (p + 1))
                              case measure => omega
                              case rel => exact ⟨p + 1, by omega, by go_num, HO16.out, HM16.out, HB16.out, hs16⟩
                          · obtain rfl : n = p := by omega
                            have hbs := HBs.out
                            have HE17 := hide (HE12.out.below hbs (Nat.le_of_eq HSB.out.symm))
                            have HV17 := hide (HV12.out.below hbs (Nat.le_of_eq HSB.out.symm))
                            have l1 := HG12.out.lt
                            have l2 := HM12.out.lt
                            have l3 := HR12.out.lt
                            have l4 := HMl.out.lt
                            rw [← HSB.out] at l1 l2 l3 l4
                            have HG17 := hide (HG12.out.of_block (hbs.block _ l1))
                            have HM17 := hide (HM12.out.below hbs l2)
                            have HR17 := hide (HR12.out.below hbs l3)
                            have HL17 := hide (HMl.out.below hbs l4)
                            have hws : w.heap.size ≤ sb := by rw [HSB.out]; exact HW12.out.size
                            have HW17 := hide (HW12.out.trans (hbs.mono hws))
                            clear hbs HBs HE12 HV12 HG12 HM12 HR12 HMl HW12 HSB
                            obtain ⟨e0, e1, e2⟩ := TAt.cells HV17.out.2.1
                            go_upto_region 67 with fail
                            have hba : Below wr.heap.size wr (wr.alloc (.cells #[.string cl, .string sc, .string pa, .bool la, .int .u64 (ex % 1000000000), .int .i64 (ex / 1000000000), .pointer none] 76)) := (Below.refl _ _).alloc (Nat.le_refl _) _
                            have HN18 := hide (VAt.made wr cl sc pa la ex)
                            have HE18 := hide (HE17.out.below hba (Nat.le_refl _))
                            have HV18 := hide (HV17.out.below hba (Nat.le_refl _))
                            have HG18 := hide (HG17.out.of_block (hba.block _ HG17.out.lt))
                            have HM18 := hide (HM17.out.below hba HM17.out.lt)
                            have HR18 := hide (HR17.out.below hba HR17.out.lt)
                            have HL18 := hide (HL17.out.below hba HL17.out.lt)
                            have HS18 := hide (HMs.out.below hba HMs.out.lt)
                            have HO18 := hide (HOr.out.alloc (.cells #[.string cl, .string sc, .string pa, .bool la, .int .u64 (ex % 1000000000), .int .i64 (ex / 1000000000), .pointer none] 76))
                            have HW18 := hide (HW17.out.trans (hba.mono HW17.out.size))
                            clear hba HE17 HV17 HG17 HM17 HR17 HL17 HMs HOr HW17 e0 e1 e2
                            generalize wr.alloc (.cells #[.string cl, .string sc, .string pa, .bool la, .int .u64 (ex % 1000000000), .int .i64 (ex / 1000000000), .pointer none] 76) = w18 at *
                            obtain ⟨nb, hnb⟩ : ∃ nb, nb = wr.heap.size := ⟨_, rfl⟩
                            rw [← hnb] at HN18
                            rw [← hnb]
                            clear hnb
                            go_cut [40, 42] from 253 to 311 (fun _ i wc => i = .int .i64 0 ∧ w18 = wc)
                            case first =>
                              go_wp2_with fail
                              go_meet
                              case rel => exact ⟨rfl, rfl⟩
                            case rest =>
                              obtain ⟨rfl, rfl⟩ := hcut
                              go_wp2_with fail
                              go_loopg [38, 42, 43, 44, 45, 46, 47, 48] (n + 1) (fun g cv iv _ _ _ _ _ _ wx => ∃ p : Nat, p + g = n + 1 ∧ iv = .int .i64 p ∧ cv = .int .i64 (cnt (D K ac) (V K X P C n c ac (G cl sc pa la ex)) p : Nat) ∧ MapIs str wx sb (sL (D K ac) p) ∧ Off sb w18 wx)
                              case atStart => exact ⟨0, by omega, rfl, by rw [cnt_zero]; rfl, HS18.out, Off.refl _ _⟩
                              case round =>
                                obtain ⟨p, hp, rfl, rfl, hms, hoff⟩ := hrel
                                have HMs := hide hms
                                have HOf := hide hoff
                                clear hms hoff
                                have hcp := cnt_le_p (D K ac) _ (V_nodup K X P C n c ac (G cl sc pa la ex)) p
                                by_cases hlt : p < n + 1
                                · have hIk : (p : Int) < (n : Int) + 1 := by omega
                                  have kc0 := HOf.out.cell HS18.out (cand_cell HO18.out hlt)
                                  have hlook := HMs.out.lookup1 (P := Yba.prog) Yba.underlying78 (decides_str wr _ (D K ac p)) (Yba.zeroValue4 wr)
                                  rw [sL_get] at hlook
                                  cases hseen : seenIn (D K ac) p (D K ac p) with
                                  | true =>
                                    rw [hseen] at hlook
                                    simp only [if_true, Option.getD_some] at hlook
                                    have HSL := hide (show sL (D K ac) (p + 1) = sL (D K ac) p from by simp [sL, hseen])
                                    have HCN := hide (cnt_seen (D K ac) (V K X P C n c ac (G cl sc pa la ex)) p hseen)
                                    clear hseen
                                    go_wp2_with fail
                                    go_roundg (n + 1 - (p + 1))
                                    case measure => omega
                                    case rel => exact ⟨p + 1, by omega, by go_num, by rw [HCN.out], by rw [HSL.out]; exact HMs.out, HOf.out⟩
                                  | false =>
                                    rw [hseen] at hlook
                                    simp only [Bool.false_eq_true, if_false, Option.getD_none] at hlook
                                    have HSL := hide (show sL (D K ac) (p + 1) = putL (sL (D K ac) p) (D K ac p) (.bool true) from by simp [sL, hseen])
                                    obtain ⟨w3, hupd, hm3, ht3⟩ := HMs.out.update Yba.underlying78 (decides_str wr _ (D K ac p)) (bits_str (D K ac p)) (.bool true)
                                    have HM3 := hide hm3
                                    have HO3 := hide (HOf.out.turned ht3)
                                    clear hm3 ht3 HMs HOf
                                    have g2 := HO3.out.cell HS18.out HG18.out.cells.2.2.1
                                    have hlv := (HO3.out.map HM18.out (by omega)).lookup (P := Yba.prog) Yba.underlying65 (decides_str w3 _ (D K ac p)) (Yba.zeroValue76 w3)
                                    by_cases hac : D K ac p = ac
                                    · as_aux_lemma =>
                                        have hvac : getL (V K X P C n c ac (G cl sc pa la ex)) (D K ac p) = some (G cl sc pa la ex) := by rw [hac]; exact V_ac K X P C n c ac (G cl sc pa la ex)
                                        rw [hvac] at hlv
                                        simp only [Option.getD_some, Option.isSome_some, G] at hlv
                                        have HCN := hide (cnt_new (D K ac) p hseen (V K X P C n c ac (G cl sc pa la ex)) (V_nodup K X P C n c ac (G cl sc pa la ex)) (by rw [hvac]; rfl))
                                        obtain ⟨u0, u1, u2, u3, u4, u5, u6⟩ := VAt.cells HN18.out
                                        have u0 := HO3.out.cell HS18.out u0
                                        have u1 := HO3.out.cell HS18.out u1
                                        have u2 := HO3.out.cell HS18.out u2
                                        have u3 := HO3.out.cell HS18.out u3
                                        have u4 := HO3.out.cell HS18.out u4
                                        have u5 := HO3.out.cell HS18.out u5
                                        have u6 := HO3.out.cell HS18.out u6
                                        have hnbl : nb < w3.heap.size := cell_lt u0
                                        have hde : ((D K ac p).toList == ac.toList) = true := by rw [hac]; simp
                                        clear hseen hvac hac
                                        go_wp2_with fail
                                        refine (eq_same cl sc pa la ex _).mono ?_
                                        rintro e w5 ⟨rfl, hb5⟩
                                        have HB5 := hide ((((Below.refl w3.heap.size w3).alloc (Nat.le_refl _) _).trans (hb5.mono (by simp))))
                                        clear hb5
                                        go_wp2_with fail
                                        go_roundg (n + 1 - (p + 1))
                                        case measure => omega
                                        case rel => exact ⟨p + 1, by omega, by go_num, by rw [HCN.out]; go_num, by rw [HSL.out]; exact HM3.out.below HB5.out HM3.out.lt, HO3.out.below HB5.out⟩
                                    · have hde := bytes_ne hac
                                      rcases there_or K X P C n c ac (G cl sc pa la ex) hac with ⟨hgone, hwhy⟩ | ⟨j, hj, hr0, hl0, hv0⟩
                                      · as_aux_lemma =>
                                          rw [hgone] at hlv
                                          simp only [Option.getD_none, Option.isSome_none] at hlv
                                          have HCN := hide (cnt_none (D K ac) (V K X P C n c ac (G cl sc pa la ex)) p hgone)
                                          have hll := fun blk => ((HO3.out.map HL18.out (by omega)).below ((Below.refl _ w3).alloc (Nat.le_refl _) blk) (HO3.out.map HL18.out (by omega)).lt).lookup (P := Yba.prog) Yba.underlying79 (decides_str (w3.alloc blk) _ (D K ac p)) (Yba.zeroValue3 (w3.alloc blk))
                                          have hlr := fun blk => ((HO3.out.map HR18.out (by omega)).below ((Below.refl _ w3).alloc (Nat.le_refl _) blk) (HO3.out.map HR18.out (by omega)).lt).lookup1 (P := Yba.prog) Yba.underlying78 (decides_str (w3.alloc blk) _ (D K ac p)) (Yba.zeroValue4 (w3.alloc blk))
                                          clear hseen hac hgone
                                          rcases hwhy with hr | ⟨hr, hl⟩
                                          · rw [hr] at hlr
                                            simp only [Option.getD_some] at hlr
                                            clear hr
                                            generalize (getL (lL K P n) (D K ac p)).getD (.int .i64 0) = lv at hll
                                            generalize (getL (lL K P n) (D K ac p)).isSome = lo at hll
                                            go_wp2_with fail
                                            go_roundg (n + 1 - (p + 1))
                                            case measure => omega
                                            case rel => exact ⟨p + 1, by omega, by go_num, by rw [HCN.out], by rw [HSL.out]; exact HM3.out.below ((Below.refl _ w3).alloc (Nat.le_refl _) _) HM3.out.lt, HO3.out.below ((Below.refl _ w3).alloc (Nat.le_refl _) _)⟩
                                          · rw [hr] at hlr
                                            rw [hl] at hll
                                            simp only [Option.getD_none, Option.isSome_none] at hlr hll
                                            clear hr hl
                                            go_wp2_with fail
                                            go_roundg (n + 1 - (p + 1))
                                            case measure => omega
                                            case rel => exact ⟨p + 1, by omega, by go_num, by rw [HCN.out], by rw [HSL.out]; exact HM3.out.below ((Below.refl _ w3).alloc (Nat.le_refl _) _) HM3.out.lt, HO3.out.below ((Below.refl _ w3).alloc (Nat.le_refl _) _)⟩
                                      · as_aux_lemma =>
                                          have HCN := hide (cnt_new (D K ac) p hseen (V K X P C n c ac (G cl sc pa la ex)) (V_nodup K X P C n c ac (G cl sc pa la ex)) (by rw [hv0]; rfl))
                                          rw [hv0] at hlv
                                          have hentj : ent X C j = .agg #[.string (C j), .string ⟨#[]⟩, .string ⟨#[]⟩, .bool false, .int .u64 (X j % 1000000000), .int .i64 (X j / 1000000000), .pointer none] := rfl
                                          rw [hentj] at hlv
                                          simp only [Option.getD_some, Option.isSome_some] at hlv
                                          have hll := fun blk => ((HO3.out.map HL18.out (by omega)).below ((Below.refl _ w3).alloc (Nat.le_refl _) blk) (HO3.out.map HL18.out (by omega)).lt).lookup (P := Yba.prog) Yba.underlying79 (decides_str (w3.alloc blk) _ (D K ac p)) (Yba.zeroValue3 (w3.alloc blk))
                                          have hlr := fun blk => ((HO3.out.map HR18.out (by omega)).below ((Below.refl _ w3).alloc (Nat.le_refl _) blk) (HO3.out.map HR18.out (by omega)).lt).lookup1 (P := Yba.prog) Yba.underlying78 (decides_str (w3.alloc blk) _ (D K ac p)) (Yba.zeroValue4 (w3.alloc blk))
                                          rw [hr0] at hlr
                                          rw [hl0] at hll
                                          simp only [Option.getD_none, Option.getD_some, Option.isSome_some] at hlr hll
                                          clear hseen hac hv0 hr0 hl0 hentj
                                          have hIj : (j : Int) < (n : Int) := by omega
                                          go_upto_region 83 with fail
                                          clear hlook hupd hlv hll hlr hde
                                          have hba : Below w3.heap.size w3 (w3.alloc (.cells #[.string (C j), .string ⟨#[]⟩, .string ⟨#[]⟩, .bool false, .int .u64 (X j % 1000000000), .int .i64 (X j / 1000000000), .pointer none] 76)) := (Below.refl _ _).alloc (Nat.le_refl _) _
                                          have HGot := hide (VAt.made w3 (C j) ⟨#[]⟩ ⟨#[]⟩ false (X j))
                                          have HM4 := hide (HM3.out.below hba HM3.out.lt)
                                          have HO4 := hide (HO3.out.below hba)
                                          obtain ⟨b, off, rfl, c0, c1, c2, c3⟩ := (HO3.out.ents HS18.out HE18.out).below hba (Nat.le_refl _) j hj
                                          have hzz := HV18.out.1
                                          have hz := TAt.cells hzz
                                          simp only [Int.zero_emod, Int.zero_ediv] at hz
                                          obtain ⟨z0, z1, z2⟩ := hz
                                          have z0 := cell_keep hba (HO3.out.cell HS18.out z0) (Nat.le_refl _)
                                          have z1 := cell_keep hba (HO3.out.cell HS18.out z1) (Nat.le_refl _)
                                          have z2 := cell_keep hba (HO3.out.cell HS18.out z2) (Nat.le_refl _)
                                          clear hba hzz c0 c2
                                          generalize w3.alloc (.cells #[.string (C j), .string ⟨#[]⟩, .string ⟨#[]⟩, .bool false, .int .u64 (X j % 1000000000), .int .i64 (X j / 1000000000), .pointer none] 76) = w4 at *
                                          obtain ⟨ob, hob⟩ : ∃ ob, ob = w3.heap.size := ⟨_, rfl⟩
                                          rw [← hob] at HGot
                                          rw [← hob]
                                          clear hob HM3 HO3
                                          obtain ⟨x0, x1⟩ := HX.out j hj
                                          have hbs : b < w4.heap.size := cell_lt c1
                                          have hzs : zb < w4.heap.size := cell_lt z0
                                          have ne1 : w4.heap.size ≠ b := by omega
                                          have ne2 : w4.heap.size ≠ zb := by omega
                                          have S0 := hide (show Wants w4 zb b (off + j * 4) (C j) (X j) from ⟨c3, c1, z0, z1, z2⟩)
                                          go_cut [48] from 366 to 378 (fun v wc => ∃ wb, v = .pointer (some ⟨wb, 0, none⟩) ∧ VAt wc wb (C j) ⟨#[]⟩ ⟨#[]⟩ false (X j) ∧ Below w4.heap.size w4 wc)
                                          case first =>
                                            go_region_held3 (fun w' => w'.cell? ⟨b, off + j * 4 + 3, none⟩ = some (.string (C j)) ∧ w'.cell? ⟨b, off + j * 4 + 1, none⟩ = some (.int .i64 (X j)) ∧ w'.cell? ⟨zb, 0, none⟩ = some (.int .u64 0) ∧ w'.cell? ⟨zb, 1, none⟩ = some (.int .i64 0) ∧ w'.cell? ⟨zb, 2, none⟩ = some (.pointer none))
                                              (first | with_reducible exact (S0.out) | with_reducible exact (S0.out).drew | with_reducible exact (S0.out.alloc _) | with_reducible exact (S0.out.alloc _).drew | with_reducible exact (S0.out.put7 ne1 ne2 _ _ _ _ _ _ _) | with_reducible exact (S0.out.put7 ne1 ne2 _ _ _ _ _ _ _).drew | with_reducible exact (S0.out.drew) | with_reducible exact (S0.out.drew).drew | with_reducible exact (S0.out.drew.alloc _) | with_reducible exact (S0.out.drew.alloc _).drew | with_reducible exact (S0.out.drew.put7 ne1 ne2 _ _ _ _ _ _ _) | with_reducible exact (S0.out.drew.put7 ne1 ne2 _ _ _ _ _ _ _).drew | with_reducible exact (S1.out) | with_reducible exact (S1.out).drew | with_reducible exact (S1.out.alloc _) | with_reducible exact (S1.out.alloc _).drew | with_reducible exact (S1.out.put7 ne1 ne2 _ _ _ _ _ _ _) | with_reducible exact (S1.out.put7 ne1 ne2 _ _ _ _ _ _ _).drew | with_reducible exact (S1.out.drew) | with_reducible exact (S1.out.drew).drew | with_reducible exact (S1.out.drew.alloc _) | with_reducible exact (S1.out.drew.alloc _).drew | with_reducible exact (S1.out.drew.put7 ne1 ne2 _ _ _ _ _ _ _) | with_reducible exact (S1.out.drew.put7 ne1 ne2 _ _ _ _ _ _ _).drew)
                                              ((go_at_call 12; refine (add_time (X j) _ x0 x1).mono ?_; rintro e w1 ⟨rfl, hb1⟩; first
                                                | (have hb0 : Below w4.drew.heap.size w4.drew w1 := (by with_reducible exact hb1); have hb1' : Below w4.heap.size w4 w1 := ⟨hb0.os, hb0.tape, hb0.output, hb0.size, hb0.block⟩; have S1 := hide (S0.out.below hb1' (Nat.le_refl _)); have HB1 := hide hb1'; clear hb0 hb1 hb1'; unfold T)
                                                | (have hb0 : Below (w4.alloc zero7).drew.heap.size (w4.alloc zero7).drew w1 := (by with_reducible exact hb1); have hb1' : Below (w4.alloc zero7).heap.size (w4.alloc zero7) w1 := ⟨hb0.os, hb0.tape, hb0.output, hb0.size, hb0.block⟩; have S1 := hide ((S0.out.alloc zero7).below hb1' (Nat.le_refl _)); obtain ⟨f7, hf7⟩ := zero7_row w4; have hr7 := hf7.of_block (hb1'.block _ (by simp)); clear hf7; have m0 := hr7.cell (i := 0) (by omega); have m1 := hr7.cell (i := 1) (by omega); have m2 := hr7.cell (i := 2) (by omega); have m3 := hr7.cell (i := 3) (by omega); have m4 := hr7.cell (i := 4) (by omega); have m5 := hr7.cell (i := 5) (by omega); have m6 := hr7.cell (i := 6) (by omega); have y0 := hr7.frozen 0; have y1 := hr7.frozen 1; have y2 := hr7.frozen 2; have y3 := hr7.frozen 3; have y4 := hr7.frozen 4; have y5 := hr7.frozen 5; have y6 := hr7.frozen 6; have HR7 := hide hr7; have HB1 := hide (((Below.refl w4.heap.size w4).alloc (Nat.le_refl _) zero7).trans (hb1'.mono (by simp))); clear hb0 hb1 hb1' hr7; unfold T)))
                                            all_goals first
                                              | (clear m0 m1 m2 m3 m4 m5 m6 y0 y1 y2 y3 y4 y5 y6
                                                 go_wp2_with fail
                                                 go_meet
                                                 case rel => exact ⟨_, rfl, VAt.put HR7.out (C j) ⟨#[]⟩ ⟨#[]⟩ false (X j), put7_below HB1.out (Nat.le_refl _) _ _ _ _ _ _ _⟩)
                                              | (go_wp2_with fail
                                                 go_meet
                                                 case rel => exact ⟨_, rfl, VAt.made w1 (C j) ⟨#[]⟩ ⟨#[]⟩ false (X j), HB1.out.alloc HB1.out.size _⟩)
                                          case rest =>
                                            obtain ⟨wb, rfl, hw, hbw⟩ := hcut
                                            obtain ⟨u0, u1, u2, u3, u4, u5, u6⟩ := VAt.cells hw
                                            obtain ⟨v0, v1, v2, v3, v4, v5, v6⟩ := VAt.cells HGot.out
                                            have v0 := cell_keep hbw v0 (Nat.le_refl _)
                                            have v1 := cell_keep hbw v1 (Nat.le_refl _)
                                            have v2 := cell_keep hbw v2 (Nat.le_refl _)
                                            have v3 := cell_keep hbw v3 (Nat.le_refl _)
                                            have v4 := cell_keep hbw v4 (Nat.le_refl _)
                                            have v5 := cell_keep hbw v5 (Nat.le_refl _)
                                            have v6 := cell_keep hbw v6 (Nat.le_refl _)
                                            have HBW := hide hbw
                                            clear hw hbw HGot c1 c3 z0 z1 z2 S0 ne1 ne2 hbs hzs
                                            go_wp2_with fail
                                            refine (eq_same (C j) ⟨#[]⟩ ⟨#[]⟩ false (X j) _).mono ?_
                                            rintro e w5 ⟨rfl, hb5⟩
                                            have HB5 := hide (HBW.out.trans ((show Below wc.heap.size wc w5 from ⟨hb5.os, hb5.tape, hb5.output, hb5.size, hb5.block⟩).mono HBW.out.size))
                                            clear hb5
                                            go_wp2_with fail
                                            go_roundg (n + 1 - (p + 1))
                                            case measure => omega
                                            case rel => exact ⟨p + 1, by omega, by go_num, by rw [HCN.out]; go_num, by rw [HSL.out]; exact HM4.out.below HB5.out HM4.out.lt, HO4.out.below HB5.out⟩
                                · as_aux_lemma =>
                                    obtain rfl : p = n + 1 := by omega
                                    have HALL := hide (cnt_all (D K ac) (V K X P C n c ac (G cl sc pa la ex)) (n + 1) (fun x hx => V_covered K X P C n c ac (G cl sc pa la ex) hx))
                                    have g2 := HOf.out.cell HS18.out HG18.out.cells.2.2.1
                                    have hlen := fun ty => (HOf.out.map HM18.out (by omega)).len (P := Yba.prog) Yba.underlying65 ty
                                    rw [HALL.out]
                                    go_wp2_with fail
                                    go_ret
                                    exact ⟨by simp, HW18.out.trans (HOf.out.toBelow hws HW18.out.size)⟩
end Go.Proofs.Ybulkdwhm
