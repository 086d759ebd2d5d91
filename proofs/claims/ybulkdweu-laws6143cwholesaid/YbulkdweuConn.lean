import Derived.Test.YbulkdweuAvps
import Derived.Test.YbulkdweuMaps
import Derived.Test.YbulkdweuSelect
import Derived.Test.YbulkdweuTry
import Derived.Deep.DeepCutAuto
import Derived.Deep.LoopGhost
namespace Go.Proofs.Ybulkdweu
open Go.RowKit Go.ChangeMaps Go.MuLone

/-- A *peer.Conn as a key: the head of its block. -/
def ptrOf (b : Nat) : Value := .pointer (some ⟨b, 0, none⟩)

theorem equal_ptr {P : Program} {w : World} {kt te : TypeId} {i : TypeInfo} (hk : P.underlying kt = some (.pointer te)) (hi : P.info? te = some i) (hs : i.size ≠ 0) {a b : Nat} (ha : Plain w a) (hb : Plain w b) :
    (Op.equal kt (ptrOf a) (ptrOf b)).run P w = .ok (decide (b = a)) w := by
  obtain ⟨ca, ta, ha⟩ := ha
  obtain ⟨cb, tb, hb⟩ := hb
  by_cases e : b = a
  · subst e
    have h : ∀ d : Nat, (Op.equalIn (d + 1) kt (ptrOf b) (ptrOf b)).run P w = .ok true w := fun d => by
      simp [ptrOf, Op.equalIn, run_underlying hk, sizeOf, typeInfo, hi, run_sameAddr_same]
    simp [Op.equal, Op.maxDepth, h 9999]
  · have hne : (⟨a, 0, none⟩ : Addr) ≠ ⟨b, 0, none⟩ := fun h => e (by simpa using (congrArg Addr.block h).symm)
    have h : ∀ d : Nat, (Op.equalIn (d + 1) kt (ptrOf a) (ptrOf b)).run P w = .ok false w := fun d => by
      simp [ptrOf, Op.equalIn, run_underlying hk, sizeOf, typeInfo, hi, hs, run_sameAddr_other w hne ha hb]
    simp [Op.equal, Op.maxDepth, h 9999, e]

theorem asking_ptr {P : Program} {w : World} {kt te : TypeId} {i : TypeInfo} (hk : P.underlying kt = some (.pointer te)) (hi : P.info? te = some i) (hs : i.size ≠ 0) {x : Nat} (hx : Plain w x) : ∀ (L : List (Nat × Value)) (es : List MapEntry) (j : Nat), (∀ y ∈ L.map (·.1), Plain w y) → Lies ptrOf es L →
    (Instr.findAsking kt (ptrOf x) es j).run P w = .ok (pos x L j) w
  | [], es, j, _, hl => by
    have : es = [] := by simpa [Lies] using hl
    subst this
    simp [Instr.findAsking, pos]
  | (y, v) :: L, [], j, _, hl => by simp [Lies] at hl
  | (y, v) :: L, e :: es, j, hp, hl => by
    simp only [Lies, List.map_cons, List.cons.injEq, Prod.mk.injEq] at hl
    obtain ⟨⟨hk1, hv1⟩, hl⟩ := hl
    have hy := hp y (by simp)
    have hrec := asking_ptr hk hi hs hx L es (j + 1) (fun z hz => hp z (by simp at hz ⊢; exact .inr hz)) hl
    unfold Instr.findAsking pos
    rw [hk1, hv1]
    by_cases h : y = x
    · subst h
      simp [equal_ptr hk hi hs hy hy, Result.andThen]
    · simp [equal_ptr hk hi hs hx hy, h, Result.andThen, hrec]

theorem decides_ptr {P : Program} {w : World} {kt te : TypeId} {i : TypeInfo} (hk : P.underlying kt = some (.pointer te)) (hi : P.info? te = some i) (hs : i.size ≠ 0) {x : Nat} (hx : Plain w x) (L : List (Nat × Value)) (hp : ∀ y ∈ L.map (·.1), Plain w y) :
    Decides ptrOf P w kt L x := by
  refine ⟨fun em => ?_, fun es hl => ?_⟩
  · unfold Instr.checkKey
    simp [run_underlying hk, Result.andThen, ptrOf]
  · unfold Instr.findKey
    cases es with
    | nil =>
      have : L = [] := by simpa [Lies] using hl.symm
      subst this
      simp [run_underlying hk, Result.andThen, Instr.findNow, pos]
    | cons e es =>
      have hn : Instr.findNow (.pointer te) (ptrOf x) (e :: es) 0 = none := by simp [Instr.findNow, Instr.sameNow]
      simp [run_underlying hk, Result.andThen, hn, asking_ptr hk hi hs hx L (e :: es) 0 hp hl]

theorem Yba.info83 : ∃ i, Yba.prog.info? 83 = some i ∧ i.size ≠ 0 := by
  have h : (Yba.prog.info? 83).map (·.size) = some 14 := by kernel_rfl
  obtain ⟨i, hi, hs⟩ := Option.map_eq_some_iff.1 h
  exact ⟨i, hi, by omega⟩

theorem zero53 (w : World) : (zeroValue 53).run Yba.prog w = .ok (.agg #[]) w := by kernel_rfl

theorem decides_conn {w : World} {x : Nat} (hx : Plain w x) (L : List (Nat × Value)) (hp : ∀ y ∈ L.map (·.1), Plain w y) : Decides ptrOf Yba.prog w 69 L x := by
  obtain ⟨i, hi, hs⟩ := Yba.info83
  exact decides_ptr Yba.underlying69 hi hs hx L hp

theorem bits_ptr (x : Nat) : Instr.sameBits 10000 (ptrOf x) (ptrOf x) = true := by simp [ptrOf, Instr.sameBits]

theorem Plain.turned {w w' : World} {b k : Nat} (h : Plain w k) (ht : Turned w w' b) (hk : k ≠ b) : Plain w' k := by
  obtain ⟨c, t, h⟩ := h
  exact ⟨c, t, (ht.block k hk).trans h⟩
theorem Plain.ne_map {w : World} {b k : Nat} {L : List (Nat × Value)} (h : Plain w k) (hm : MapIs ptrOf w b L) : k ≠ b := by
  rintro rfl
  obtain ⟨c, t, h⟩ := h
  obtain ⟨⟨es, cl, hb, _⟩, _⟩ := hm
  rw [h] at hb
  simp at hb

/-- What track does to the rest of the world: but for the map and the node's own block nothing turns; the node's cells read as before. -/
structure Tracked (w w' : World) (nb mb : Nat) : Prop where
  os : w'.os = w.os
  tape : w'.tape = w.tape
  output : w'.output = w.output
  size : w'.heap.size = w.heap.size
  block : ∀ k, k ≠ nb → k ≠ mb → w'.heap[k]? = w.heap[k]?
  cell : ∀ o, w'.cell? ⟨nb, o, none⟩ = w.cell? ⟨nb, o, none⟩
  frozen : ∀ o, w'.frozen? ⟨nb, o, none⟩ = w.frozen? ⟨nb, o, none⟩
  plain : ∀ k, Plain w k → Plain w' k

theorem tracked_mk {w w2 : World} {nb mb : Nat} {L : List (Nat × Value)} (hm : MapIs ptrOf w mb L) (hne : nb ≠ mb) (c10 : w.cell? ⟨nb, 10, none⟩ = some (.int .i32 0)) (ht : Turned (w.setCell ⟨nb, 10, none⟩ (.int .i32 1)) w2 mb) : Tracked w (w2.setCell ⟨nb, 10, none⟩ (.int .i32 0)) nb mb := by
  have e10 : w2.cell? ⟨nb, 10, none⟩ = some (.int .i32 1) := (ht.cell hne).trans (World.cell?_setCell_same _ _ _ c10)
  refine ⟨ht.os, ht.tape, ht.output, ?_, fun k h1 h2 => ?_, fun o => ?_, fun o => ?_, fun k hk => ((hk.setCell _ _).turned ht (hk.ne_map hm)).setCell _ _⟩
  · have := ht.size
    simp [World.setCell] at this ⊢
    exact this
  · rw [Below.heap_setCell _ _ _ _ (by exact h1), ht.block k h2, Below.heap_setCell _ _ _ _ (by exact h1)]
  · by_cases e : o = 10
    · subst e
      rw [World.cell?_setCell_same _ _ _ e10, c10]
    · rw [World.cell?_setCell_other _ _ _ _ (by simp <;> omega), ht.cell (by exact hne), World.cell?_setCell_other _ _ _ _ (by simp <;> omega)]
  · rw [World.frozen?_setCell, ht.frozen (by exact hne), World.frozen?_setCell]

theorem map_ne {w : World} {nb mb o : Nat} {v : Value} {L : List (Nat × Value)} (hc : w.cell? ⟨nb, o, none⟩ = some v) (hm : MapIs ptrOf w mb L) : nb ≠ mb := by
  rintro rfl
  obtain ⟨⟨es, cl, hb, _⟩, _⟩ := hm
  simp [World.cell?, hb] at hc

theorem chan_ne {w : World} {nb sb o : Nat} {v : Value} {c s r : Nat} {bf : Array Value} {cl tm : Bool} (hc : w.cell? ⟨nb, o, none⟩ = some v) (hs : w.heap[sb]? = some (.chan c bf cl s r tm)) : sb ≠ nb := by
  rintro rfl
  simp [World.cell?, hs] at hc

set_option maxRecDepth 100000 in
set_option maxHeartbeats 1000000 in
/-- track, the node not stopped: c is recorded. -/
theorem track_open (nb sb mb cb : Nat) (s r : Nat) (tm : Bool) (L : List (Nat × Value)) (w : World) (c9 : w.cell? ⟨nb, 9, none⟩ = some (.chan (some sb))) (c10 : w.cell? ⟨nb, 10, none⟩ = some (.int .i32 0)) (f10 : w.frozen? ⟨nb, 10, none⟩ = false) (c12 : w.cell? ⟨nb, 12, none⟩ = some (.map (some mb)))
    (hch : w.heap[sb]? = some (.chan 0 #[] false s r tm)) (hm : MapIs ptrOf w mb L) (hx : Plain w cb) (hp : ∀ y ∈ L.map (·.1), Plain w y) :
    Calls Yba.prog 9 #[.pointer (some ⟨nb, 0, none⟩), ptrOf cb] w fun e w' => e = .returned (.bool true) ∧ MapIs ptrOf w' mb (putL L cb (.agg #[])) ∧ Tracked w w' nb mb := by
  have hnm := map_ne c9 hm
  have hsn := chan_ne c9 hch
  have e9 : (w.setCell ⟨nb, 10, none⟩ (.int .i32 1)).cell? ⟨nb, 9, none⟩ = some (.chan (some sb)) := by rw [World.cell?_setCell_other _ _ _ _ (by simp)]; exact c9
  have e10 : (w.setCell ⟨nb, 10, none⟩ (.int .i32 1)).cell? ⟨nb, 10, none⟩ = some (.int .i32 1) := World.cell?_setCell_same _ _ _ c10
  have e12 : (w.setCell ⟨nb, 10, none⟩ (.int .i32 1)).cell? ⟨nb, 12, none⟩ = some (.map (some mb)) := by rw [World.cell?_setCell_other _ _ _ _ (by simp)]; exact c12
  have g10 : (w.setCell ⟨nb, 10, none⟩ (.int .i32 1)).frozen? ⟨nb, 10, none⟩ = false := by rw [World.frozen?_setCell]; exact f10
  have hch1 : (w.setCell ⟨nb, 10, none⟩ (.int .i32 1)).heap[sb]? = some (.chan 0 #[] false s r tm) := by rw [Below.heap_setCell _ _ _ _ (by exact hsn)]; exact hch
  have hm1 : MapIs ptrOf (w.setCell ⟨nb, 10, none⟩ (.int .i32 1)) mb L := hm.of_block (Below.heap_setCell _ _ _ _ (by exact Ne.symm hnm))
  obtain ⟨w2, hupd, hm2, ht2⟩ := hm1.update Yba.underlying46 (decides_conn (hx.setCell _ _) L (fun y hy => (hp y hy).setCell _ _)) (bits_ptr cb) (.agg #[])
  have HT := tracked_mk hm hnm c10 ht2
  have k10 : w2.cell? ⟨nb, 10, none⟩ = some (.int .i32 1) := (ht2.cell hnm).trans e10
  have kf10 : w2.frozen? ⟨nb, 10, none⟩ = false := (ht2.frozen hnm).trans g10
  have hm3 : MapIs ptrOf (w2.setCell ⟨nb, 10, none⟩ (.int .i32 0)) mb (putL L cb (.agg #[])) := hm2.of_block (Below.heap_setCell _ _ _ _ (by exact Ne.symm hnm))
  clear ht2 hm2 hm1 hp hx hch hm c9 c12
  unfold ptrOf at hupd ⊢
  go_enter_defers Yba.func9, Yba.ntmps9
  go_wp2_with fail
  refine (lock_free Yba.muLib ⟨nb, 10, none⟩ _ c10 f10).mono ?_
  rintro e w' ⟨rfl, rfl⟩
  clear c10 f10
  generalize w.setCell ⟨nb, 10, none⟩ (.int .i32 1) = w1 at *
  go_upto_region 4 with fail
  refine wp_region_select (c := sb) (z := .agg #[]) (closed := false) rfl (by simp [go_sem, execOp, Go.Conc.rcase, Act.eval]) hch1 ?_
  go_wp2_with fail
  refine leaves_cons (f := 11) (args := #[.pointer (some ⟨nb, 10, none⟩)]) (by simp) (by simp [go_sem]) ?_
  refine (unlock_deferred Yba.muLib ⟨nb, 10, none⟩ .returning _ k10 kf10).mono ?_
  rintro e u' w'' ⟨rfl, rfl, rfl⟩
  exact ⟨_, results_tmp rfl _ _ _, rfl, hm3, HT⟩

set_option maxRecDepth 100000 in
set_option maxHeartbeats 1000000 in
/-- track, the node stopped: nothing is recorded. -/
theorem track_shut (nb sb mb cb : Nat) (s r : Nat) (tm : Bool) (L : List (Nat × Value)) (w : World) (c9 : w.cell? ⟨nb, 9, none⟩ = some (.chan (some sb))) (c10 : w.cell? ⟨nb, 10, none⟩ = some (.int .i32 0)) (f10 : w.frozen? ⟨nb, 10, none⟩ = false)
    (hch : w.heap[sb]? = some (.chan 0 #[] true s r tm)) (hm : MapIs ptrOf w mb L) :
    Calls Yba.prog 9 #[.pointer (some ⟨nb, 0, none⟩), ptrOf cb] w fun e w' => e = .returned (.bool false) ∧ MapIs ptrOf w' mb L ∧ Tracked w w' nb mb := by
  have hnm := map_ne c9 hm
  have hsn := chan_ne c9 hch
  have e9 : (w.setCell ⟨nb, 10, none⟩ (.int .i32 1)).cell? ⟨nb, 9, none⟩ = some (.chan (some sb)) := by rw [World.cell?_setCell_other _ _ _ _ (by simp)]; exact c9
  have e10 : (w.setCell ⟨nb, 10, none⟩ (.int .i32 1)).cell? ⟨nb, 10, none⟩ = some (.int .i32 1) := World.cell?_setCell_same _ _ _ c10
  have g10 : (w.setCell ⟨nb, 10, none⟩ (.int .i32 1)).frozen? ⟨nb, 10, none⟩ = false := by rw [World.frozen?_setCell]; exact f10
  have hch1 : (w.setCell ⟨nb, 10, none⟩ (.int .i32 1)).heap[sb]? = some (.chan 0 #[] true s r tm) := by rw [Below.heap_setCell _ _ _ _ (by exact hsn)]; exact hch
  have HT := tracked_mk hm (w2 := w.setCell ⟨nb, 10, none⟩ (.int .i32 1)) hnm c10 ⟨rfl, rfl, rfl, rfl, fun _ _ => rfl⟩
  have hm3 : MapIs ptrOf ((w.setCell ⟨nb, 10, none⟩ (.int .i32 1)).setCell ⟨nb, 10, none⟩ (.int .i32 0)) mb L := hm.of_block ((Below.heap_setCell _ _ _ _ (by exact Ne.symm hnm)).trans (Below.heap_setCell _ _ _ _ (by exact Ne.symm hnm)))
  clear hch hm c9
  unfold ptrOf
  go_enter_defers Yba.func9, Yba.ntmps9
  go_wp2_with fail
  refine (lock_free Yba.muLib ⟨nb, 10, none⟩ _ c10 f10).mono ?_
  rintro e w' ⟨rfl, rfl⟩
  clear c10 f10
  generalize w.setCell ⟨nb, 10, none⟩ (.int .i32 1) = w1 at *
  go_upto_region 4 with fail
  refine wp_region_select (c := sb) (z := .agg #[]) (closed := true) rfl (by simp [go_sem, execOp, Go.Conc.rcase, Act.eval]) hch1 ?_
  go_wp2_with fail
  refine leaves_cons (f := 11) (args := #[.pointer (some ⟨nb, 10, none⟩)]) (by simp) (by simp [go_sem]) ?_
  refine (unlock_deferred Yba.muLib ⟨nb, 10, none⟩ .returning _ e10 g10).mono ?_
  rintro e u' w'' ⟨rfl, rfl, rfl⟩
  exact ⟨_, results_tmp rfl _ _ _, rfl, hm3, HT⟩
end Go.Proofs.Ybulkdweu
