import Derived.Test.YbulkdweuParts
import Derived.ProofKit
import Derived.SizedLaws
import Derived.Deep.Slices
import Derived.Lib.SmallJoins
namespace Go.Proofs.Ybulkdweu
open Go.ChangeShapes Go.WideShapes Go.ChangeAt Go.RowKit Go.Deep

theorem Yba.cells5 : Yba.prog.cellsOf 5 = 1 := by kernel_rfl
theorem Yba.cells22 : Yba.prog.cellsOf 22 = 1 := by kernel_rfl
theorem Yba.cells24 : Yba.prog.cellsOf 24 = 1 := by kernel_rfl
theorem Yba.cells26 : Yba.prog.cellsOf 26 = 4 := by kernel_rfl
theorem Yba.bytes5 : Yba.prog.bytesOf 5 = 1 := by kernel_rfl
theorem Yba.bytes26 : Yba.prog.bytesOf 26 = 40 := by kernel_rfl
theorem reach_eq : reachBytes = 140737488351232 := rfl

theorem weightsAll_mem {H : Type} {P : Program} {e : TypeId} : ∀ {l : List (DataW H)} {d : DataW H}, d ∈ l → ∀ n ∈ d.weights P e, n ∈ DataW.weightsAll P e l
  | d' :: r, d, hd, n, hn => by
    simp only [DataW.weightsAll, List.mem_append]
    rcases List.mem_cons.1 hd with rfl | h
    · exact Or.inl hn
    · exact Or.inr (weightsAll_mem h n hn)

section
variable {H : Type} {enc : TypeId × Value → H} {w : World}

/-- A byte slice that came in. -/
theorem open_bytes {fuel : Nat} {a : Option Addr} {n c : Nat} {x : DataW H × List MemPlace} (h : DataW.trod enc Yba.prog w 0 (fun _ => true) true fuel 24 [.slice a n c] = some x) (hw : ∀ m ∈ x.1.weights Yba.prog 24, m ≤ reachBytes) :
    (a = none → n = 0 ∧ c = 0) ∧ n ≤ 140737488355328 ∧ ∃ Z, ByteAt w a n Z := by
  rcases open_ints Yba.underlying24 Yba.underlying5 Yba.cells5 h with ⟨hcs, _⟩ | ⟨a', len, cap, zs, hcs, _, hl, hm, hz, rfl, hcell, _⟩
  · simp at hcs
    obtain ⟨rfl, rfl, rfl⟩ := hcs
    exact ⟨fun _ => ⟨rfl, rfl⟩, by omega, fun _ => 0, fun i hi => absurd hi (Nat.not_lt_zero _)⟩
  · simp at hcs
    obtain ⟨rfl, rfl, rfl⟩ := hcs
    simp only [if_true] at hz
    refine ⟨fun h => (by cases h), ?_, fun i => zs.getD i 0, fun i hi => ?_⟩
    · have := hw ((lits (H := H) .u8 (zs.take n)).length + (lits (H := H) .u8 (zs.drop n)).length) (by simp [DataW.weights, Yba.underlying24, Yba.bytes5])
      rw [reach_eq] at this
      simp [lits] at this
      omega
    · have hc := hcell i (by omega)
      obtain ⟨b, off, spot⟩ := a'
      have hs : spot = none := by simpa [Addr.add] using World.cell?_spot (hcell 0 (by omega))
      subst hs
      exact ⟨b, off, rfl, by rw [← add_plain]; exact hc⟩

set_option maxRecDepth 100000 in
/-- The slice of plain AVP data that came in. -/
theorem open_avps {fuel : Nat} {a : Option Addr} {n c : Nat} {x : DataW H × List MemPlace} (h : DataW.trod enc Yba.prog w 0 (fun _ => true) true fuel 23 [.slice a n c] = some x) (hw : ∀ m ∈ x.1.weights Yba.prog 23, m ≤ reachBytes) :
    (a = none → n = 0 ∧ c = 0) ∧ n ≤ 140737488355328 ∧ ∃ (C F V : Nat → Int) (dA : Nat → Option Addr) (dN dC : Nat → Nat) (Z : Nat → Nat → Int), AvpAt w a n C F V (fun i => .slice (dA i) (dN i) (dC i)) ∧
      ∀ i, i < n → (dA i = none → dN i = 0 ∧ dC i = 0) ∧ dN i ≤ 140737488355328 ∧ ByteAt w (dA i) (dN i) (Z i) := by
  rcases open_slice Yba.underlying23 h with ⟨hcs, _⟩ | ⟨a', len, cap, m, fu, D, Pl, hcs, _, hl, hm, hmm, rfl, hx⟩
  · simp at hcs
    obtain ⟨rfl, rfl, rfl⟩ := hcs
    exact ⟨fun _ => ⟨rfl, rfl⟩, by omega, fun _ => 0, fun _ => 0, fun _ => 0, fun _ => none, fun _ => 0, fun _ => 0, fun _ _ => 0, fun i hi => absurd hi (Nat.not_lt_zero _), fun i hi => absurd hi (Nat.not_lt_zero _)⟩
  · simp at hcs
    obtain ⟨rfl, rfl, rfl⟩ := hcs
    simp only [if_true] at hmm
    subst hmm
    have hlen : n ≤ 140737488355328 := by
      have := hw (((List.range n).map D).length * 40 + ((List.range (m - n)).map fun j => D (n + j)).length * 40) (by simp [DataW.weights, Yba.underlying23, Yba.bytes26, Nat.add_mul])
      rw [reach_eq] at this
      simp at this
      omega
    have hspot : 0 < n → a'.spot = none := by
      intro h0
      obtain ⟨cs', h1, h2⟩ := hx 0 (by omega)
      rw [Yba.cells26] at h1
      obtain ⟨_, hl4, hc4⟩ := World.cells?_some h1
      match cs', hl4 with
      | [v0, v1, v2, v3], _ =>
      have g0 := hc4 0 (by omega)
      simp at g0
      simpa [Addr.add] using World.cell?_spot g0
    have each : ∀ i, i < n → ∃ y : (Int × Int × Int) × (Option Addr × Nat × Nat) × (Nat → Int), (∃ b off, some a' = some ⟨b, off, none⟩ ∧ w.cell? ⟨b, off + i * 4, none⟩ = some (.int .u32 y.1.1) ∧ w.cell? ⟨b, off + i * 4 + 1, none⟩ = some (.int .u8 y.1.2.1) ∧
        w.cell? ⟨b, off + i * 4 + 2, none⟩ = some (.int .u32 y.1.2.2) ∧ w.cell? ⟨b, off + i * 4 + 3, none⟩ = some (.slice y.2.1.1 y.2.1.2.1 y.2.1.2.2)) ∧ (y.2.1.1 = none → y.2.1.2.1 = 0 ∧ y.2.1.2.2 = 0) ∧ y.2.1.2.1 ≤ 140737488355328 ∧ ByteAt w y.2.1.1 y.2.1.2.1 y.2.2 := by
      intro i hi
      obtain ⟨cs', h1, h2⟩ := hx i (by omega)
      rw [Yba.cells26] at h1
      obtain ⟨_, hl4, hc4⟩ := World.cells?_some h1
      obtain ⟨y0, y1, y2, y3, n', hD, _, t0, t1, t2, t3⟩ := Joins.trod_struct4 Yba.underlying26 h2
      match cs', hl4 with
      | [v0, v1, v2, v3], _ =>
      simp only [Yba.cells5, Yba.cells22, Yba.cells24] at t0 t1 t2 t3
      simp at t0 t1 t2 t3
      obtain ⟨z0, e0, _, _⟩ := DataW.trod_int Yba.underlying22 t0
      obtain ⟨z1, e1, _, _⟩ := DataW.trod_int Yba.underlying5 t1
      obtain ⟨z2, e2, _, _⟩ := DataW.trod_int Yba.underlying22 t2
      simp at e0 e1 e2
      subst e0 e1 e2
      have g0 := hc4 0 (by omega)
      have g1 := hc4 1 (by omega)
      have g2 := hc4 2 (by omega)
      have g3 := hc4 3 (by omega)
      obtain ⟨b, off, spot⟩ := a'
      have hs : spot = none := hspot (by omega)
      subst hs
      simp only [add_plain] at g0 g1 g2 g3
      simp at g0 g1 g2 g3
      have hform : ∃ ia il ic, v3 = .slice ia il ic := by
        rcases open_ints Yba.underlying24 Yba.underlying5 Yba.cells5 t3 with ⟨hcs, _⟩ | ⟨a'', len, cap, zs, hcs, _⟩
        · exact ⟨_, _, _, by simpa using hcs⟩
        · exact ⟨_, _, _, by simpa using hcs⟩
      obtain ⟨ia, il, ic, rfl⟩ := hform
      have hw3 : ∀ m ∈ y3.1.weights Yba.prog 24, m ≤ reachBytes := by
        intro q hq
        refine hw q ?_
        simp only [DataW.weights, Yba.underlying23, List.mem_cons, List.mem_append]
        refine Or.inr (Or.inl (weightsAll_mem (List.mem_map.2 ⟨i, List.mem_range.2 hi, rfl⟩) q ?_))
        have hD1 : D i = .agg [y0.1, y1.1, y2.1, y3.1] := (Prod.mk.inj hD).1
        rw [hD1]
        simp only [DataW.weights, Yba.underlying26]
        simp [DataW.weightsEach, hq]
      obtain ⟨k1, k2, Z, k3⟩ := open_bytes t3 hw3
      exact ⟨((z0, z1, z2), (ia, il, ic), Z), ⟨b, off, rfl, g0, g1, g2, g3⟩, k1, k2, k3⟩
    obtain ⟨y, hy⟩ := choose_lt each
    exact ⟨fun h => (by cases h), hlen, fun i => (y i).1.1, fun i => (y i).1.2.1, fun i => (y i).1.2.2, fun i => (y i).2.1.1, fun i => (y i).2.1.2.1, fun i => (y i).2.1.2.2, fun i => (y i).2.2, fun i hi => (hy i hi).1, fun i hi => (hy i hi).2⟩
end
end Go.Proofs.Ybulkdweu
