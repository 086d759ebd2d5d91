import Derived.Test.YbulkdweuConn
import Derived.Deep.RegionHeld3
import Derived.Deep.OwnRows
import Derived.Maps.OwnSet
namespace Go.Proofs.Ybulkdweu
open Go.RowKit Go.ChangeMaps Go.MuLone Go.Conc

theorem hideC {p : Prop} (h : p) : Hid p := h

theorem Yba.info69 : (Yba.prog.info? 69).map (fun i => (i.zero, i.size, i.bytes)) = some (some (.pointer none), 1, 8) := by kernel_rfl

theorem mkChan (w : World) : (Instr.makeChan 45 (.int .i64 0)).run Yba.prog w = .ok (.chan (some w.heap.size)) (w.alloc (.chan 0 #[] false 0 0 false)) := by
  have h : (Yba.prog.info? 53).map (·.bytes) = some 0 := by kernel_rfl
  obtain ⟨i, hi, hb⟩ := Option.map_eq_some_iff.1 h
  simpa using run_makeChan (P := Yba.prog) (w := w) Yba.underlying45 hi .i64 0 (by omega) (by rw [hb]; omega)

/-- The node's own cells. -/
def Node (w : World) (nb sb mb : Nat) (closed : Bool) : Prop :=
  w.cell? ⟨nb, 9, none⟩ = some (.chan (some sb)) ∧ w.cell? ⟨nb, 10, none⟩ = some (.int .i32 0) ∧ (∀ o, w.frozen? ⟨nb, o, none⟩ = false) ∧ w.cell? ⟨nb, 12, none⟩ = some (.map (some mb)) ∧ w.cell? ⟨nb, 13, none⟩ = some (.slice none 0 0) ∧
    w.heap[sb]? = some (.chan 0 #[] closed 0 0 false)

theorem five_blocks (w : World) (o1 o2 o3 o4 o5 : Obj) : (((((w.alloc o1).alloc o2).alloc o3).alloc o4).alloc o5).heap[w.heap.size]? = some o1 ∧ (((((w.alloc o1).alloc o2).alloc o3).alloc o4).alloc o5).heap[w.heap.size + 1]? = some o2 ∧
    (((((w.alloc o1).alloc o2).alloc o3).alloc o4).alloc o5).heap[w.heap.size + 1 + 1]? = some o3 ∧ (((((w.alloc o1).alloc o2).alloc o3).alloc o4).alloc o5).heap[w.heap.size + 1 + 1 + 1]? = some o4 ∧
    (((((w.alloc o1).alloc o2).alloc o3).alloc o4).alloc o5).heap[w.heap.size + 1 + 1 + 1 + 1]? = some o5 ∧ Below w.heap.size w (((((w.alloc o1).alloc o2).alloc o3).alloc o4).alloc o5) := by
  refine ⟨?_, ?_, ?_, ?_, ?_, ((((((Below.refl _ w).alloc (Nat.le_refl _) _).alloc (by simp) _).alloc (by simp <;> omega) _).alloc (by simp <;> omega) _).alloc (by simp <;> omega) _)⟩
  · rw [Below.heap_alloc _ _ _ (by simp <;> omega), Below.heap_alloc _ _ _ (by simp <;> omega), Below.heap_alloc _ _ _ (by simp <;> omega), Below.heap_alloc _ _ _ (by simp)]; exact heap_alloc_new _ _
  · rw [Below.heap_alloc _ _ _ (by simp <;> omega), Below.heap_alloc _ _ _ (by simp <;> omega), Below.heap_alloc _ _ _ (by simp)]; simpa using heap_alloc_new (w.alloc o1) o2
  · rw [Below.heap_alloc _ _ _ (by simp <;> omega), Below.heap_alloc _ _ _ (by simp)]; simpa using heap_alloc_new ((w.alloc o1).alloc o2) o3
  · rw [Below.heap_alloc _ _ _ (by simp)]; simpa using heap_alloc_new (((w.alloc o1).alloc o2).alloc o3) o4
  · simpa using heap_alloc_new ((((w.alloc o1).alloc o2).alloc o3).alloc o4) o5

theorem node_mk {W : World} {nb sb mb : Nat} {cs : Array Value} (hb : W.heap[nb]? = some (.cells cs 68 (0, 0))) (h9 : cs[9]? = some (.chan (some sb))) (h10 : cs[10]? = some (.int .i32 0)) (h12 : cs[12]? = some (.map (some mb))) (h13 : cs[13]? = some (.slice none 0 0))
    (hs : W.heap[sb]? = some (.chan 0 #[] false 0 0 false)) : Node W nb sb mb false := by
  refine ⟨?_, ?_, fun o => ?_, ?_, ?_, hs⟩
  · simp [World.cell?, hb, h9]
  · simp [World.cell?, hb, h10]
  · simp [World.frozen?, hb]
  · simp [World.cell?, hb, h12]
  · simp [World.cell?, hb, h13]

theorem map_mk {W : World} {mb : Nat} (h : W.heap[mb]? = some (.map #[] 0)) : MapIs ptrOf W mb [] := ⟨⟨_, _, h, rfl⟩, by simp⟩
theorem row_mk {W : World} {ob K : Nat} (h : W.heap[ob]? = some (.cells (madeCells #[.pointer none] K) 69 (0, 0))) : W.rowIs ob 69 K (fun _ => .pointer none) :=
  ⟨_, h, size_madeCells _ _, fun i hi => by simp [madeCells, hi, Nat.mod_one]⟩

/-- What stands behind the node's making. -/
def Start (w : World) (K : Nat) (nv : Value) (wc : World) : Prop :=
  ∃ nb sb mb, nv = .pointer (some ⟨nb, 0, none⟩) ∧ Node wc nb sb mb false ∧ MapIs ptrOf wc mb [] ∧ wc.rowIs w.heap.size 69 K (fun _ => .pointer none) ∧ w.heap.size < nb ∧ w.heap.size < sb ∧ w.heap.size < mb ∧ Below w.heap.size w wc

theorem start_mk {w : World} {K : Nat} {a b c : Obj} {cs : Array Value} {i j : Nat} (hs : (((((w.alloc (.cells (madeCells #[.pointer none] K) 69)).alloc a).alloc b).alloc c).alloc (.cells cs 68)).heap[w.heap.size + i]? = some (.chan 0 #[] false 0 0 false)) (hm : (((((w.alloc (.cells (madeCells #[.pointer none] K) 69)).alloc a).alloc b).alloc c).alloc (.cells cs 68)).heap[w.heap.size + j]? = some (.map #[] 0))
    (hi : 0 < i) (hj : 0 < j) (h9 : cs[9]? = some (.chan (some (w.heap.size + i)))) (h10 : cs[10]? = some (.int .i32 0)) (h12 : cs[12]? = some (.map (some (w.heap.size + j)))) (h13 : cs[13]? = some (.slice none 0 0)) :
    Start w K (.pointer (some ⟨w.heap.size + 1 + 1 + 1 + 1, 0, none⟩)) (((((w.alloc (.cells (madeCells #[.pointer none] K) 69)).alloc a).alloc b).alloc c).alloc (.cells cs 68)) := by
  obtain ⟨h1, _, _, _, h5, hb⟩ := five_blocks w (.cells (madeCells #[.pointer none] K) 69) a b c (.cells cs 68)
  exact ⟨_, _, _, rfl, node_mk h5 h9 h10 h12 h13 hs, map_mk hm, row_mk h1, by omega, by omega, by omega, hb⟩

theorem start_drew {w : World} {K : Nat} {nv : Value} {W : World} (h : Start w K nv W) : Start w K nv W.drew := by
  obtain ⟨nb, sb, mb, h1, h2, h3, h4, h5, h6, h7, h8⟩ := h
  exact ⟨nb, sb, mb, h1, h2, h3, h4, h5, h6, h7, h8.drew⟩

/-- The entries after i rounds. -/
def conns (g : Nat → Nat) (i : Nat) : List (Nat × Value) := (List.range i).map fun j => (g j, .agg #[])
theorem conns_keys (g : Nat → Nat) (i : Nat) : (conns g i).map (·.1) = (List.range i).map g := by simp [conns, Function.comp_def]
theorem conns_len (g : Nat → Nat) (i : Nat) : (conns g i).length = i := by simp [conns]
theorem putL_new {x : Nat} {L : List (Nat × Value)} (h : x ∉ L.map (·.1)) (v : Value) : putL L x v = L ++ [(x, v)] := by
  have hg := getL_none x L h
  unfold getL at hg
  exact (pos_none (by simpa using hg) v).1

/-- What holds behind i rounds of the filling. -/
def Filling (w wr : World) (K i nb sb mb : Nat) (g : Nat → Nat) : Prop :=
  Node wr nb sb mb false ∧ MapIs ptrOf wr mb (conns g i) ∧ (∃ f, wr.rowIs w.heap.size 69 K f ∧ ∀ j, j < i → f j = ptrOf (g j)) ∧ (∀ j, j < i → Plain wr (g j)) ∧ Below w.heap.size w wr

/-- The world as it stands when the new Conn has been stored into olds[i]. -/
theorem fill_store {w wr : World} {K i nb sb mb : Nat} {g : Nat → Nat} (h : Filling w wr K i nb sb mb g) (hi : i < K) (hon : w.heap.size < nb) (hos : w.heap.size < sb) (hom : w.heap.size < mb) (Z : Array Value) :
    Filling w ((wr.setCell ⟨w.heap.size, i, none⟩ (ptrOf wr.heap.size)).alloc (.cells Z 83)) K i nb sb mb g ∧ Plain ((wr.setCell ⟨w.heap.size, i, none⟩ (ptrOf wr.heap.size)).alloc (.cells Z 83)) wr.heap.size ∧
      ((wr.setCell ⟨w.heap.size, i, none⟩ (ptrOf wr.heap.size)).alloc (.cells Z 83)).cell? ⟨w.heap.size, i, none⟩ = some (ptrOf wr.heap.size) := by
  obtain ⟨⟨c9, c10, fz, c12, c13, hch⟩, hM, ⟨f, hR, hf⟩, hP, hB⟩ := h
  have hsz : (wr.setCell ⟨w.heap.size, i, none⟩ (ptrOf wr.heap.size)).heap.size = wr.heap.size := by simp [World.setCell]
  have lt : ∀ {o v}, wr.cell? ⟨nb, o, none⟩ = some v → nb < wr.heap.size := fun h => cell_lt h
  have hnb := lt c9
  have hsb : sb < wr.heap.size := (Array.getElem?_eq_some_iff.1 hch).1
  have blk : ∀ k, k ≠ w.heap.size → k < wr.heap.size → ((wr.setCell ⟨w.heap.size, i, none⟩ (ptrOf wr.heap.size)).alloc (.cells Z 83)).heap[k]? = wr.heap[k]? := fun k h1 h2 => by
    rw [Below.heap_alloc _ _ _ (by rw [hsz]; exact h2), Below.heap_setCell _ _ _ _ (by exact h1)]
  have cl : ∀ o, ((wr.setCell ⟨w.heap.size, i, none⟩ (ptrOf wr.heap.size)).alloc (.cells Z 83)).cell? ⟨nb, o, none⟩ = wr.cell? ⟨nb, o, none⟩ := fun o => World.cell?_of_block (w := wr) (blk nb (by omega) hnb)
  have R2 := (hR.set i (ptrOf wr.heap.size)).alloc (.cells Z 83)
  refine ⟨⟨⟨(cl _).trans c9, (cl _).trans c10, fun o => (World.frozen?_of_block (w := wr) (blk nb (by omega) hnb)).trans (fz o), (cl _).trans c12, (cl _).trans c13, (blk sb (by omega) hsb).trans hch⟩, hM.of_block (blk mb (by omega) hM.lt), ⟨_, R2, fun j hj => by simp only [if_neg (show ¬ j = i from by omega)]; exact hf j hj⟩, fun j hj => ?_, ?_⟩, ?_, ?_⟩
  · obtain ⟨c, t, hc⟩ := (hP j hj).setCell ⟨w.heap.size, i, none⟩ (ptrOf wr.heap.size)
    exact ⟨c, t, by rw [Below.heap_alloc _ _ _ (by rw [hsz]; exact (hP j hj).lt)]; exact hc⟩
  · exact (hB.setCell (Nat.le_refl _) _).alloc (by rw [hsz]; exact hB.size) _
  · exact ⟨Z, 83, by have := heap_alloc_new (wr.setCell ⟨w.heap.size, i, none⟩ (ptrOf wr.heap.size)) (.cells Z 83); rwa [hsz] at this⟩
  · have := R2.cell hi
    simpa using this

theorem fill_map {w w1 w2 : World} {K i nb sb mb nk : Nat} {g : Nat → Nat} (h : Filling w w1 K i nb sb mb g) (hn : Plain w1 nk) (hc : w1.cell? ⟨w.heap.size, i, none⟩ = some (ptrOf nk)) (hi : i < K) (hnew : ∀ j, j < i → g j ≠ nk) (_hon : w.heap.size < nb) (hom : w.heap.size < mb)
    (hm2 : MapIs ptrOf w2 mb (putL (conns g i) nk (.agg #[]))) (ht : Turned w1 w2 mb) : Filling w w2 K (i + 1) nb sb mb (fun j => if j = i then nk else g j) := by
  obtain ⟨⟨c9, c10, fz, c12, c13, hch⟩, hM, ⟨f, hR, hf⟩, hP, hB⟩ := h
  have hnm := map_ne c9 hM
  have hsm : sb ≠ mb := by
    rintro rfl
    obtain ⟨⟨es, cl, hb, _⟩, _⟩ := hM
    rw [hch] at hb
    simp at hb
  have hkeys : nk ∉ (conns g i).map (·.1) := by
    rw [conns_keys]
    intro hmem
    obtain ⟨j, hj, e⟩ := List.mem_map.1 hmem
    exact hnew j (List.mem_range.1 hj) e
  have hconns : putL (conns g i) nk (.agg #[]) = conns (fun j => if j = i then nk else g j) (i + 1) := by
    rw [putL_new hkeys]
    simp only [conns, List.range_succ, List.map_append, List.map_cons, List.map_nil, if_pos]
    congr 1
    refine List.map_congr_left fun j hj => ?_
    rw [if_neg (by have := List.mem_range.1 hj; omega)]
  rw [hconns] at hm2
  refine ⟨⟨(ht.cell hnm).trans c9, (ht.cell hnm).trans c10, fun o => (ht.frozen hnm).trans (fz o), (ht.cell hnm).trans c12, (ht.cell hnm).trans c13, (ht.block sb hsm).trans hch⟩, hm2, ⟨f, hR.of_block (ht.block _ (by omega)), fun j hj => ?_⟩, fun j hj => ?_, hB.trans (ht.below (by omega))⟩
  · by_cases e : j = i
    · subst e
      simp only [if_pos]
      have := hR.cell hi
      rw [hc] at this
      exact (Option.some.inj this).symm
    · simp only [if_neg e]
      exact hf j (by omega)
  · by_cases e : j = i
    · subst e
      simp only [if_pos]
      exact hn.turned ht (hn.ne_map hM)
    · simp only [if_neg e]
      exact (hP j (by omega)).turned ht ((hP j (by omega)).ne_map hM)

/-- What holds when track is called. -/
def Ready (w wc : World) (K nb sb mb cb : Nat) (g : Nat → Nat) (st : Bool) : Prop :=
  Node wc nb sb mb st ∧ MapIs ptrOf wc mb (conns g K) ∧ (∀ j, j < K → wc.cell? ⟨w.heap.size, j, none⟩ = some (ptrOf (g j))) ∧ (∀ j, j < K → Plain wc (g j)) ∧ Plain wc cb ∧ Below w.heap.size w wc

/-- One Conn more, which is in no slot of olds. -/
theorem fill_new {w wr : World} {K nb sb mb : Nat} {g : Nat → Nat} (h : Filling w wr K K nb sb mb g) (Z : Array Value) : Filling w (wr.alloc (.cells Z 83)) K K nb sb mb g ∧ Plain (wr.alloc (.cells Z 83)) wr.heap.size ∧ ∀ j, j < K → g j ≠ wr.heap.size := by
  obtain ⟨⟨c9, c10, fz, c12, c13, hch⟩, hM, ⟨f, hR, hf⟩, hP, hB⟩ := h
  have lt : ∀ {o v}, wr.cell? ⟨nb, o, none⟩ = some v → nb < wr.heap.size := fun h => cell_lt h
  have hnb := lt c9
  have hsb : sb < wr.heap.size := (Array.getElem?_eq_some_iff.1 hch).1
  have hbl : ∀ k, k < wr.heap.size → (wr.alloc (.cells Z 83)).heap[k]? = wr.heap[k]? := fun k hk => Below.heap_alloc _ _ _ hk
  have cl : ∀ o, (wr.alloc (.cells Z 83)).cell? ⟨nb, o, none⟩ = wr.cell? ⟨nb, o, none⟩ := fun o => World.cell?_of_block (w := wr) (hbl nb hnb)
  refine ⟨⟨⟨(cl _).trans c9, (cl _).trans c10, fun o => (World.frozen?_of_block (w := wr) (hbl nb hnb)).trans (fz o), (cl _).trans c12, (cl _).trans c13, (hbl sb hsb).trans hch⟩, hM.of_block (hbl mb hM.lt), ⟨f, hR.alloc _, hf⟩, fun j hj => ?_, hB.alloc hB.size _⟩, ⟨Z, 83, heap_alloc_new wr _⟩, fun j hj => Nat.ne_of_lt (hP j hj).lt⟩
  obtain ⟨c, t, hc⟩ := hP j hj
  exact ⟨c, t, (hbl _ (hP j hj).lt).trans hc⟩

theorem ready_open {w wr : World} {K nb sb mb cb : Nat} {g : Nat → Nat} (h : Filling w wr K K nb sb mb g) (hc : Plain wr cb) : Ready w wr K nb sb mb cb g false := by
  obtain ⟨hN, hM, ⟨f, hR, hf⟩, hP, hB⟩ := h
  exact ⟨hN, hM, fun j hj => by rw [hR.cell hj, hf j hj], hP, hc, hB⟩

theorem ready_shut {w wr : World} {K nb sb mb cb : Nat} {g : Nat → Nat} (h : Filling w wr K K nb sb mb g) (hc : Plain wr cb) (hos : w.heap.size < sb) : Ready w { wr with heap := wr.heap.setIfInBounds sb (.chan 0 #[] true 0 0 false) } K nb sb mb cb g true := by
  obtain ⟨⟨c9, c10, fz, c12, c13, hch⟩, hM, ⟨f, hR, hf⟩, hP, hB⟩ := h
  have hsb : sb < wr.heap.size := (Array.getElem?_eq_some_iff.1 hch).1
  have hbl : ∀ k, k ≠ sb → ({ wr with heap := wr.heap.setIfInBounds sb (.chan 0 #[] true 0 0 false) } : World).heap[k]? = wr.heap[k]? := fun k hk => by
    show (wr.heap.setIfInBounds sb _)[k]? = _
    rw [Array.getElem?_setIfInBounds_ne (Ne.symm hk)]
  have hnb : nb ≠ sb := Ne.symm (chan_ne c9 hch)
  have plain_ne : ∀ {k}, Plain wr k → k ≠ sb := by
    rintro k ⟨c, t, hk⟩ rfl
    rw [hch] at hk
    simp at hk
  have hms : mb ≠ sb := by
    rintro rfl
    obtain ⟨⟨es, cl, hb, _⟩, _⟩ := hM
    rw [hch] at hb
    simp at hb
  have cl : ∀ o, ({ wr with heap := wr.heap.setIfInBounds sb (.chan 0 #[] true 0 0 false) } : World).cell? ⟨nb, o, none⟩ = wr.cell? ⟨nb, o, none⟩ := fun o => World.cell?_of_block (w := wr) (hbl nb hnb)
  refine ⟨⟨(cl _).trans c9, (cl _).trans c10, fun o => (World.frozen?_of_block (w := wr) (hbl nb hnb)).trans (fz o), (cl _).trans c12, (cl _).trans c13, ?_⟩, hM.of_block (hbl mb hms), fun j hj => ?_, fun j hj => ?_, ?_, ⟨hB.os, hB.tape, hB.output, ?_, fun k hk => (hbl k (by omega)).trans (hB.block k hk)⟩⟩
  · show (wr.heap.setIfInBounds sb _)[sb]? = _
    simp [hsb]
  · rw [World.cell?_of_block (w := wr) (hbl w.heap.size (by omega)), hR.cell hj, hf j hj]
  · obtain ⟨c, t, hk⟩ := hP j hj
    exact ⟨c, t, (hbl _ (plain_ne (hP j hj))).trans hk⟩
  · obtain ⟨c, t, hk⟩ := hc
    exact ⟨c, t, (hbl _ (plain_ne ⟨c, t, hk⟩)).trans hk⟩
  · simpa using hB.size

/-- c is one of olds (dup), or none of them. -/
def Pick (dup : Bool) (K : Nat) (g : Nat → Nat) (cb : Nat) : Prop := (dup = true ∧ ∃ j, j < K ∧ cb = g j) ∨ (dup = false ∧ ∀ j, j < K → g j ≠ cb)

/-- What holds behind track. -/
def Done (w wc : World) (K nb sb mb cb : Nat) (g : Nat → Nat) (st : Bool) (L : List (Nat × Value)) : Prop :=
  Node wc nb sb mb st ∧ MapIs ptrOf wc mb L ∧ (∀ j, j < K → wc.cell? ⟨w.heap.size, j, none⟩ = some (ptrOf (g j))) ∧ (∀ j, j < K → Plain wc (g j)) ∧ Plain wc cb ∧ Below w.heap.size w wc

theorem done_mk {w wc w' : World} {K nb sb mb cb : Nat} {g : Nat → Nat} {st : Bool} {L : List (Nat × Value)} (h : Ready w wc K nb sb mb cb g st) (ht : Tracked wc w' nb mb) (hm : MapIs ptrOf w' mb L) (hon : w.heap.size < nb) (hom : w.heap.size < mb) : Done w w' K nb sb mb cb g st L := by
  obtain ⟨⟨c9, c10, fz, c12, c13, hch⟩, hM, hO, hP, hC, hB⟩ := h
  have hsn := chan_ne c9 hch
  have hsm : sb ≠ mb := by
    rintro rfl
    obtain ⟨⟨es, cl, hb, _⟩, _⟩ := hM
    rw [hch] at hb
    simp at hb
  refine ⟨⟨(ht.cell _).trans c9, (ht.cell _).trans c10, fun o => (ht.frozen o).trans (fz o), (ht.cell _).trans c12, (ht.cell _).trans c13, (ht.block sb hsn hsm).trans hch⟩, hm, fun j hj => ?_, fun j hj => ht.plain _ (hP j hj), ht.plain _ hC, hB.trans ⟨ht.os, ht.tape, ht.output, by rw [ht.size]; exact Nat.le_refl _, fun k hk => ht.block k (by omega) (by omega)⟩⟩
  rw [World.cell?_of_block (w := wc) (ht.block w.heap.size (by omega) (by omega))]
  exact hO j hj

theorem has_conns (g : Nat → Nat) (K x : Nat) : (getL (conns g K) x).isSome = true ↔ ∃ j, j < K ∧ g j = x := by
  rw [← mem_keys, conns_keys, List.mem_map]
  exact ⟨fun ⟨j, hj, e⟩ => ⟨j, List.mem_range.1 hj, e⟩, fun ⟨j, hj, e⟩ => ⟨j, List.mem_range.2 hj, e⟩⟩

/-- The entries behind track. -/
def after (st : Bool) (K cb : Nat) (g : Nat → Nat) : List (Nat × Value) := if st then conns g K else putL (conns g K) cb (.agg #[])

/-- The map behind track: what is asked of it. -/
theorem map_after (st dup : Bool) (K cb : Nat) (g : Nat → Nat) (h : Pick dup K g cb) :
    (after st K cb g).length = (if st then K else if dup then K else K + 1) ∧
    (getL (after st K cb g) cb).isSome = (dup || !st) ∧
    ∀ j, j < K → (getL (after st K cb g) (g j)).isSome = true := by
  have hd : (getL (conns g K) cb).isSome = dup := by
    rcases h with ⟨rfl, j, hj, e⟩ | ⟨rfl, h⟩
    · exact (has_conns g K cb).2 ⟨j, hj, e.symm⟩
    · cases hb : (getL (conns g K) cb).isSome with
      | false => rfl
      | true =>
        obtain ⟨j, hj, e⟩ := (has_conns g K cb).1 hb
        exact absurd e (h j hj)
  unfold after
  cases st with
  | true =>
    refine ⟨by simp [conns_len], by simp [hd], fun j hj => ?_⟩
    simpa using (has_conns g K (g j)).2 ⟨j, hj, rfl⟩
  | false =>
    refine ⟨?_, ?_, fun j hj => ?_⟩
    · simp [length_put, conns_len, hd]
    · simp [getL_put]
    · simp only [Bool.false_eq_true, if_false, getL_put]
      split
      · rfl
      · exact (has_conns g K (g j)).2 ⟨j, hj, rfl⟩

theorem all_unit {g : Nat → Nat} {K cb x : Nat} {st : Bool} : (getL (after st K cb g) x).getD (.agg #[]) = .agg #[] := by
  have hc : ∀ K, (getL (conns g K) x).getD (.agg #[]) = .agg #[] := by
    intro K
    have : ∀ L : List Nat, (getL (L.map fun j => (g j, Value.agg #[])) x).getD (.agg #[]) = .agg #[] := by
      intro L
      induction L with
      | nil => rfl
      | cons a L ih =>
        rw [List.map_cons, getL_cons]
        split
        · rfl
        · exact ih
    exact this _
  unfold after
  cases st with
  | true => exact hc K
  | false =>
    simp only [Bool.false_eq_true, if_false, getL_put]
    split
    · rfl
    · exact hc K

/-- The look-up behind track, in whatever later world. -/
theorem look_after {w wc wx : World} {K nb sb mb cb x : Nat} {g : Nat → Nat} {st : Bool} (h : Done w wc K nb sb mb cb g st (after st K cb g)) (hb : Below wc.heap.size wc wx) (hx : Plain wc x) :
    (Instr.lookup 46 (.map (some mb)) (ptrOf x) true).run Yba.prog wx = .ok (.tuple #[.agg #[], .bool (getL (after st K cb g) x).isSome]) wx := by
  obtain ⟨hN, hM, hO, hP, hC, hB⟩ := h
  have pl : ∀ {k}, Plain wc k → Plain wx k := fun hk => hk.below hb hk.lt
  have hM' := hM.below hb hM.lt
  have hkeys : ∀ y ∈ (after st K cb g).map (·.1), Plain wx y := by
    intro y hy
    have hco : ∀ y ∈ (conns g K).map (·.1), Plain wx y := fun y hy => by
      rw [conns_keys] at hy
      obtain ⟨j, hj, rfl⟩ := List.mem_map.1 hy
      exact pl (hP j (List.mem_range.1 hj))
    unfold after at hy
    cases st with
    | true => exact hco y (by simpa using hy)
    | false =>
      simp only [Bool.false_eq_true, if_false, keys_put] at hy
      split at hy
      · exact hco y hy
      · rcases List.mem_append.1 hy with h | h
        · exact hco y h
        · simp at h; subst h; exact pl hC
  have := hM'.lookup (P := Yba.prog) Yba.underlying46 (decides_conn (pl hx) _ hkeys) (zero53 wx)
  rw [all_unit] at this
  exact this

/-- 'len(m)', its run known. -/
theorem wpList_len_is {P : Program} {w : World} {ops : Array Oper} {rest : List Oper} {o : Oper} {a : Act} {Q : Exit → Act → World → Prop} (hg : o.guard = none) (m : Operand) (t : TypeId) (hop : o.op = Op.call { callee := Callee.builtin Builtin.len, args := #[m], argTypes := #[t] })
    (b n : Nat) (hm : a.eval m = .map (some b)) (hrun : ∀ ty, (Builtin.len_ #[t] ty #[.map (some b)]).run P w = .ok (.int .i64 n) w) (hK : wpList P ops Q rest (a.put o.dst (.int .i64 n)) w) : wpList P ops Q (o :: rest) a w := by
  refine wpList_plain hg fun K' hK' => ?_
  unfold Oper.wp
  simp [execOp, hop, resolve, invoke, builtin, hm, hrun o.type, Result.andThen]
  exact hK' _ _ hK

set_option maxRecDepth 100000 in
set_option maxHeartbeats 4000000 in
theorem lawC_walk (st ag : Bool) (p q : Int) (K : Nat) (w : World) (hp0 : 0 ≤ p) (hp1 : p ≤ 65535) (hq0 : 0 ≤ q) (hq1 : q ≤ 65535) (hK : p % 300 = (K : Int)) (_hK3 : K < 300) :
    Calls Yba.prog 4 #[.bool st, .int .u16 p, .bool ag, .int .u16 q] w fun e w' => e = .returned (.bool true) ∧ Below w.heap.size w w' := by
  have hmk := run_make_row' (P := Yba.prog) 43 69 (.pointer none) 8 Yba.underlying43 Yba.info69 rfl .i64 .i64 K (by omega) (by omega)
  have hmc := mkChan
  have hmm := @run_makeMap Yba.prog
  go_enter Yba.func4, Yba.ntmps4
  go_upto_region 3 with fail
  go_cut [9, 11] from 22 to 31 (fun k nv wc => k = .int .i64 K ∧ Start w K nv wc)
  case first =>
    go_region
    all_goals
      go_wp2_with fail
      go_meet
      refine ⟨by rw [hK], ?_⟩
    all_goals first | exact start_drew (start_mk (i := 1) (j := 2) (five_blocks w _ _ _ _ _).2.1 (five_blocks w _ _ _ _ _).2.2.1 (by decide) (by decide) rfl rfl rfl rfl) | exact start_drew (start_mk (i := 1) (j := 3) (five_blocks w _ _ _ _ _).2.1 (five_blocks w _ _ _ _ _).2.2.2.1 (by decide) (by decide) rfl rfl rfl rfl) | exact start_drew (start_mk (i := 2) (j := 1) (five_blocks w _ _ _ _ _).2.2.1 (five_blocks w _ _ _ _ _).2.1 (by decide) (by decide) rfl rfl rfl rfl) | exact start_drew (start_mk (i := 2) (j := 3) (five_blocks w _ _ _ _ _).2.2.1 (five_blocks w _ _ _ _ _).2.2.2.1 (by decide) (by decide) rfl rfl rfl rfl) | exact start_drew (start_mk (i := 3) (j := 1) (five_blocks w _ _ _ _ _).2.2.2.1 (five_blocks w _ _ _ _ _).2.1 (by decide) (by decide) rfl rfl rfl rfl) | exact start_drew (start_mk (i := 3) (j := 2) (five_blocks w _ _ _ _ _).2.2.2.1 (five_blocks w _ _ _ _ _).2.2.1 (by decide) (by decide) rfl rfl rfl rfl)
  case rest =>
    obtain ⟨rfl, nb, sb, mb, rfl, hN, hM, hR, hon, hos, hom, hbel⟩ := hcut
    have HF0 : Filling w wc K 0 nb sb mb (fun _ => 0) := ⟨hN, hM, ⟨_, hR, fun j hj => absurd hj (Nat.not_lt_zero _)⟩, fun j hj => absurd hj (Nat.not_lt_zero _), hbel⟩
    have HF0' := hideC HF0
    clear hN hM hR hbel HF0
    go_wp2_with fail
    go_loopg [12] K (fun gh iv wr => ∃ (i : Nat) (g : Nat → Nat), i + gh = K ∧ iv = .int .i64 i ∧ Filling w wr K i nb sb mb g)
    case atStart => exact ⟨0, _, by omega, rfl, HF0'.out⟩
    case round =>
      clear HF0'
      obtain ⟨i, g, hk, rfl, hF⟩ := hrel
      by_cases hlt : i < K
      · obtain ⟨f, hR, hf⟩ := hF.2.2.1
        have hrc := hR.cell hlt
        have hrf := hR.frozen i
        have hrl := hR.lt
        have hI : (i : Int) < (K : Int) := by omega
        have HF := hideC hF
        clear hF hR hf
        go_upto_region 8 with fail
        obtain ⟨F1, P1, cc⟩ := fill_store HF.out hlt hon hos hom #[.nilIface, .pointer none, .pointer none, .int .i32 0, .int .u32 0, .nilIface, .int .u32 0, .int .u32 0, .int .u64 0, .pointer none, .pointer none, .int .u64 0, .bool false, .slice none 0 0]
        have hgl : ∀ j, j < i → g j ≠ wr.heap.size := fun j hj => Nat.ne_of_lt (HF.out.2.2.2.1 j hj).lt
        have Hgl := hideC hgl
        unfold ptrOf at F1 P1 cc
        clear hrc hrf hgl
        generalize (wr.setCell ⟨w.heap.size, i, none⟩ (.pointer (some ⟨wr.heap.size, 0, none⟩))).alloc (.cells #[.nilIface, .pointer none, .pointer none, .int .i32 0, .int .u32 0, .nilIface, .int .u32 0, .int .u32 0, .int .u64 0, .pointer none, .pointer none, .int .u64 0, .bool false, .slice none 0 0] 83) = w1 at *
        generalize wr.heap.size = nk at *
        obtain ⟨w2, hupd, hm2, ht2⟩ := (F1.2.1.of_block (w' := w1.drew) rfl).update Yba.underlying46 (decides_conn (w := w1.drew) P1 (conns g i) (fun y hy => by rw [conns_keys] at hy; obtain ⟨j, hj, rfl⟩ := List.mem_map.1 hy; exact F1.2.2.2.1 j (List.mem_range.1 hj))) (bits_ptr nk) (.agg #[])
        have F2 := fill_map (w2 := w2) F1 P1 cc hlt Hgl.out hon hom hm2 ⟨ht2.os, ht2.tape, ht2.output, ht2.size, ht2.block⟩
        have HF2 := hideC F2
        have c12 := F1.1.2.2.2.1
        clear F1 F2 P1 hm2 ht2 HF
        unfold ptrOf at hupd
        go_region
        go_wp2_with fail
        go_roundg (K - (i + 1))
        case measure => omega
        case rel => exact ⟨i + 1, _, by omega, by go_num, HF2.out⟩
      · obtain rfl : K = i := by omega
        have HF := hideC hF
        clear hF
        go_upto_region 10 with fail
        obtain ⟨F1, P1, hgl⟩ := fill_new HF.out #[.nilIface, .pointer none, .pointer none, .int .i32 0, .int .u32 0, .nilIface, .int .u32 0, .int .u32 0, .int .u64 0, .pointer none, .pointer none, .int .u64 0, .bool false, .slice none 0 0]
        have HF1 := hideC F1
        have HP1 := hideC P1
        have Hgl := hideC hgl
        clear HF F1 P1 hgl hmk hmc hmm
        generalize wr.alloc (.cells #[.nilIface, .pointer none, .pointer none, .int .i32 0, .int .u32 0, .nilIface, .int .u32 0, .int .u32 0, .int .u64 0, .pointer none, .pointer none, .int .u64 0, .bool false, .slice none 0 0] 83) = w1 at *
        generalize wr.heap.size = nk at *
        go_cut [14] from 51 to 55 (fun t wc => ∃ dup : Bool, t = .bool dup ∧ (dup = true → 0 < K) ∧ w1 = wc)
        case first =>
          cases ag with
          | true =>
            go_wp2_with fail
            go_meet
            exact ⟨_, rfl, fun h => by simpa using h, rfl⟩
          | false =>
            go_wp2_with fail
            go_meet
            exact ⟨_, rfl, fun h => absurd h (by decide), rfl⟩
        case rest =>
          obtain ⟨dup, rfl, hdup, rfl⟩ := hcut
          go_upto_if 56 with fail
          go_cut [13] from 56 to 63 (fun cv wc => ∃ cb, cv = .pointer (some ⟨cb, 0, none⟩) ∧ Plain w1 cb ∧ Pick dup K g cb ∧ w1 = wc)
          case first =>
            cases dup with
            | true =>
              have h0 := hdup rfl
              have hi1 := Int.emod_lt_of_pos q (show (0 : Int) < K by omega)
              have hi0 := Int.emod_nonneg q (show (K : Int) ≠ 0 by omega)
              have hix : (q % (K : Int)).toNat < K := by omega
              obtain ⟨f, hR, hf⟩ := HF1.out.2.2.1
              have hc := hR.cell hix
              rw [hf _ hix] at hc
              unfold ptrOf at hc
              clear hR hf
              go_wp2_with fail
              go_meet
              exact ⟨_, rfl, HF1.out.2.2.2.1 _ hix, .inl ⟨rfl, _, hix, rfl⟩, rfl⟩
            | false =>
              go_wp2_with fail
              go_meet
              exact ⟨_, rfl, HP1.out, .inr ⟨rfl, Hgl.out⟩, rfl⟩
          case rest =>
            obtain ⟨cb, rfl, hPc, hcb, rfl⟩ := hcut
            have Hcb := hideC hcb
            have HPc := hideC hPc
            clear hcb hPc HP1 Hgl hdup
            go_upto_if 64 with fail
            go_cut [4] from 64 to 68 (fun _ wc => Ready w wc K nb sb mb cb g st)
            case first =>
              cases st with
              | true =>
                have c9 := HF1.out.1.1
                have hcl := fun ats ty => run_close_open (P := Yba.prog) (w := w1) ats ty HF1.out.1.2.2.2.2.2
                go_wp2_with fail
                go_meet
                exact ready_shut HF1.out HPc.out hos
              | false =>
                go_wp2_with fail
                go_meet
                exact ready_open HF1.out HPc.out
            case rest =>
              clear HF1 HPc
              have HR := hideC hcut
              clear hcut
              go_wp2_with fail
              have htr : Calls Yba.prog 9 #[.pointer (some ⟨nb, 0, none⟩), ptrOf cb] wc fun e w' => e = .returned (.bool !st) ∧ Done w w' K nb sb mb cb g st (after st K cb g) := by
                obtain ⟨⟨c9, c10, fz, c12, c13, hch⟩, hM, hO, hP, hC, hB⟩ := HR.out
                cases st with
                | true => exact (track_shut nb sb mb cb 0 0 false _ wc c9 c10 (fz 10) hch hM).mono fun e w' ⟨h1, h2, h3⟩ => ⟨h1, done_mk HR.out h3 (by simpa [after] using h2) hon hom⟩
                | false => exact (track_open nb sb mb cb 0 0 false _ wc c9 c10 (fz 10) c12 hch hM hC (fun y hy => by
                    rw [conns_keys] at hy
                    obtain ⟨j, hj, rfl⟩ := List.mem_map.1 hy
                    exact hP j (List.mem_range.1 hj))).mono fun e w' ⟨h1, h2, h3⟩ => ⟨h1, done_mk HR.out h3 (by simpa [after] using h2) hon hom⟩
              refine htr.mono ?_
              clear htr HR
              rintro e w5 ⟨rfl, hD⟩
              have HD := hideC hD
              clear hD
              obtain ⟨hlen, hhas, heach⟩ := map_after st dup K cb g Hcb.out
              have hrun := fun ty => HD.out.2.1.len (P := Yba.prog) Yba.underlying46 ty
              rw [hlen] at hrun
              have hlk := look_after HD.out (Below.refl _ _) HD.out.2.2.2.2.1
              rw [hhas] at hlk
              have c12 := HD.out.1.2.2.2.1
              have Heach := hideC heach
              unfold ptrOf at hlk
              clear hlen hhas heach
              cases st <;> cases dup
              all_goals
                simp only [Bool.false_eq_true, if_false, if_true, Bool.not_false, Bool.not_true, Bool.or_self, Bool.or_true, Bool.or_false] at hrun hlk
                go_wp2_with (at_len; refine wpList_len_is rfl _ 46 rfl mb _ rfl hrun ?_)
                clear hrun hlk c12
                go_loopg [19] K (fun gh iv wr => ∃ i : Nat, i + gh = K ∧ iv = .int .i64 i ∧ Below w5.heap.size w5 wr)
                case atStart => exact ⟨0, by omega, rfl, (Below.refl _ _).alloc (Nat.le_refl _) _⟩
                case round =>
                  obtain ⟨i, hk, rfl, hbr⟩ := hrel
                  by_cases hlt : i < K
                  · have c12 := (hbr.cell (cell_lt HD.out.1.2.2.2.1)).trans HD.out.1.2.2.2.1
                    have ci := (hbr.cell (cell_lt (HD.out.2.2.1 i hlt))).trans (HD.out.2.2.1 i hlt)
                    have l1 := look_after HD.out hbr.drew (HD.out.2.2.2.1 i hlt)
                    have l2 := look_after HD.out ((hbr.alloc hbr.size (.cells #[] 53)).drew) (HD.out.2.2.2.1 i hlt)
                    rw [Heach.out i hlt] at l1 l2
                    have hI : (i : Int) < (K : Int) := by omega
                    have hI0 : (0 : Int) ≤ (i : Int) := by omega
                    have hs1 := cell_lt ci
                    have hs2 := cell_lt c12
                    dsimp only at hs1 hs2
                    unfold ptrOf at ci l1 l2
                    have HB := hideC hbr
                    clear hbr
                    go_upto_region 29 with fail
                    go_region
                    all_goals
                      go_wp2_with fail
                      go_roundg (K - (i + 1))
                      case measure => omega
                      case rel => exact ⟨i + 1, by omega, by go_num, (HB.out.alloc HB.out.size _).drew⟩
                  · have c10 := (hbr.cell (cell_lt HD.out.1.2.1)).trans HD.out.1.2.1
                    have f10 : wr.frozen? ⟨nb, 10, none⟩ = false := (hbr.frozen (cell_lt HD.out.1.2.1)).trans (HD.out.1.2.2.1 10)
                    have c9 := (hbr.cell (cell_lt HD.out.1.1)).trans HD.out.1.1
                    have c13 := (hbr.cell (cell_lt HD.out.1.2.2.2.2.1)).trans HD.out.1.2.2.2.2.1
                    have hch := (hbr.block sb (Array.getElem?_eq_some_iff.1 HD.out.1.2.2.2.2.2).1).trans HD.out.1.2.2.2.2.2
                    have hsn := chan_ne c9 hch
                    have hfin : Below w.heap.size w wr := HD.out.2.2.2.2.2.trans (hbr.mono HD.out.2.2.2.2.2.size)
                    have hnil := fun w a l c => Lib.run_eql_slice_nil (P := Yba.prog) w 59 138 a l c 0 0 Yba.underlying59
                    have Hfin := hideC hfin
                    clear hbr hfin HD Heach
                    go_wp2_with fail
                    refine (trylock_free nb 10 _ c10 f10).mono ?_
                    rintro e w7 ⟨rfl, rfl⟩
                    go_wp2_with fail
                    refine (unlock_held Yba.muLib ⟨nb, 10, none⟩ _ (World.cell?_setCell_same _ _ _ c10) (by rw [World.frozen?_setCell]; exact f10)).mono ?_
                    rintro e w7 ⟨rfl, rfl⟩
                    have e9 : ((wr.setCell ⟨nb, 10, none⟩ (.int .i32 1)).setCell ⟨nb, 10, none⟩ (.int .i32 0)).cell? ⟨nb, 9, none⟩ = some (.chan (some sb)) := by rw [World.cell?_setCell_other _ _ _ _ (by simp), World.cell?_setCell_other _ _ _ _ (by simp)]; exact c9
                    have e13 : ((wr.setCell ⟨nb, 10, none⟩ (.int .i32 1)).setCell ⟨nb, 10, none⟩ (.int .i32 0)).cell? ⟨nb, 13, none⟩ = some (.slice none 0 0) := by rw [World.cell?_setCell_other _ _ _ _ (by simp), World.cell?_setCell_other _ _ _ _ (by simp)]; exact c13
                    have hch2 := ((Below.heap_setCell (wr.setCell ⟨nb, 10, none⟩ (.int .i32 1)) ⟨nb, 10, none⟩ (.int .i32 0) sb hsn).trans (Below.heap_setCell wr ⟨nb, 10, none⟩ (.int .i32 1) sb hsn)).trans hch
                    have Hfin2 := hideC ((Hfin.out.setCell (p := ⟨nb, 10, none⟩) (Nat.le_of_lt hon) (.int .i32 1)).setCell (p := ⟨nb, 10, none⟩) (Nat.le_of_lt hon) (.int .i32 0))
                    clear c9 c10 f10 c13 hch Hfin
                    generalize (wr.setCell ⟨nb, 10, none⟩ (.int .i32 1)).setCell ⟨nb, 10, none⟩ (.int .i32 0) = w8 at *
                    go_upto_region 36 with fail
                    refine wp_region_select (c := sb) (z := .agg #[]) rfl (by simp [go_sem, execOp, Go.Conc.rcase, Act.eval]) hch2 ?_
                    go_wp2_with fail
                    go_ret
                    exact ⟨by simp, Hfin2.out⟩
end Go.Proofs.Ybulkdweu
