import Derived.Test.YbulkdwfiLaw
import Derived.ProofKit
import Derived.SizedLaws
import Derived.Deep.Slices
import Derived.OpenShut
import Derived.ChangeOld
namespace Go.Proofs.Ybulkdwfi.lawS6144AWhole
set_option linter.unusedVariables false
set_option linter.unusedSimpArgs false
open Go.ChangeShapes Go.WideShapes Go.ChangeAt Go.RowKit Go.Deep

theorem own : ownKnob Yba.prog.godebug = none := by kernel_rfl
theorem laidOut : laidOutB Yba.prog = true := by kernel_rfl
theorem cells5 : Yba.prog.cellsOf 5 = 1 := by kernel_rfl
theorem cells24 : Yba.prog.cellsOf 24 = 1 := by kernel_rfl
theorem bytes5 : Yba.prog.bytesOf 5 = 1 := by kernel_rfl
theorem bytes24 : Yba.prog.bytesOf 24 = 24 := by kernel_rfl
theorem reach_eq : reachBytes = 140737488351232 := rfl

theorem weightsAll_mem {H : Type} {P : Program} {e : TypeId} : ∀ {l : List (DataW H)} {d : DataW H}, d ∈ l → ∀ n ∈ d.weights P e, n ∈ DataW.weightsAll P e l
  | d' :: r, d, hd, n, hn => by
    simp only [DataW.weightsAll, List.mem_append]
    rcases List.mem_cons.1 hd with rfl | h
    · exact Or.inl hn
    · exact Or.inr (weightsAll_mem h n hn)

section
variable {H : Type} {enc : TypeId × Value → H} {w : World}

/-- A byte slice that came in. -/
theorem open_bytes {fuel : Nat} {a : Option Addr} {n c : Nat} {x : DataW H × List MemPlace} (h : DataW.trod enc Yba.prog w 0 (fun _ => true) true fuel 24 [.slice a n c] = some x) (hw : ∀ m ∈ x.1.weights Yba.prog 24, m ≤ reachBytes) :
    (a = none → n = 0 ∧ c = 0) ∧ n ≤ 140737488355328 ∧ ∃ Z, NumAt .u8 w a n Z := by
  rcases open_ints Yba.underlying24 Yba.underlying5 cells5 h with ⟨hcs, _⟩ | ⟨a', len, cap, zs, hcs, _, hl, hm, hz, rfl, hcell, _⟩
  · simp at hcs
    obtain ⟨rfl, rfl, rfl⟩ := hcs
    exact ⟨fun _ => ⟨rfl, rfl⟩, by omega, fun _ => 0, fun i hi => absurd hi (Nat.not_lt_zero _)⟩
  · simp at hcs
    obtain ⟨rfl, rfl, rfl⟩ := hcs
    simp only [if_true] at hz
    refine ⟨fun h => (by cases h), ?_, fun i => zs.getD i 0, fun i hi => ?_⟩
    · have := hw ((lits (H := H) .u8 (zs.take n)).length + (lits (H := H) .u8 (zs.drop n)).length) (by simp [DataW.weights, Yba.underlying24, bytes5])
      rw [reach_eq] at this
      simp [lits] at this
      omega
    · have hc := hcell i (by omega)
      obtain ⟨b, off, spot⟩ := a'
      have hs : spot = none := by simpa [Addr.add] using World.cell?_spot (hcell 0 (by omega))
      subst hs
      exact ⟨b, off, rfl, by rw [← add_plain]; exact hc⟩

set_option maxRecDepth 100000 in
/-- The slice of byte slices that came in. -/
theorem open_parts {fuel : Nat} {a : Option Addr} {n c : Nat} {x : DataW H × List MemPlace} (h : DataW.trod enc Yba.prog w 0 (fun _ => true) true fuel 22 [.slice a n c] = some x) (hw : ∀ m ∈ x.1.weights Yba.prog 22, m ≤ reachBytes) :
    n ≤ 140737488355328 ∧ ∃ (A : Nat → Option Addr) (L C : Nat → Nat) (Z : Nat → Nat → Int), PartsAt w a n A L C Z := by
  rcases open_slice1 Yba.underlying22 cells24 h with ⟨hcs, _⟩ | ⟨a', len, cap, m, fu, V, D, Pl, hcs, _, hl, hm, hmm, rfl, hx⟩
  · simp at hcs
    obtain ⟨rfl, rfl, rfl⟩ := hcs
    exact ⟨by omega, fun _ => none, fun _ => 0, fun _ => 0, fun _ _ => 0, fun i hi => absurd hi (Nat.not_lt_zero _)⟩
  · simp at hcs
    obtain ⟨rfl, rfl, rfl⟩ := hcs
    simp only [if_true] at hmm
    subst hmm
    have hlen : n ≤ 140737488355328 := by
      have := hw (((List.range n).map D).length * 24 + ((List.range (m - n)).map fun j => D (n + j)).length * 24) (by simp [DataW.weights, Yba.underlying22, bytes24, Nat.add_mul])
      rw [reach_eq] at this
      simp at this
      omega
    refine ⟨hlen, ?_⟩
    have each : ∀ i, i < n → ∃ y : (Option Addr × Nat × Nat) × (Nat → Int), (∃ b off, some a' = some ⟨b, off, none⟩ ∧ w.cell? ⟨b, off + i, none⟩ = some (.slice y.1.1 y.1.2.1 y.1.2.2)) ∧ (y.1.1 = none → y.1.2.1 = 0 ∧ y.1.2.2 = 0) ∧ y.1.2.1 ≤ 140737488355328 ∧ NumAt .u8 w y.1.1 y.1.2.1 y.2 := by
      intro i hi
      obtain ⟨h1, h2⟩ := hx i (by omega)
      have hform : ∃ ia il ic, V i = .slice ia il ic := by
        rcases open_ints Yba.underlying24 Yba.underlying5 cells5 h2 with ⟨hcs, _⟩ | ⟨a'', len, cap, zs, hcs, _⟩
        · exact ⟨_, _, _, by simpa using hcs⟩
        · exact ⟨_, _, _, by simpa using hcs⟩
      obtain ⟨ia, il, ic, hV⟩ := hform
      rw [hV] at h1 h2
      have hw3 : ∀ m ∈ (D i).weights Yba.prog 24, m ≤ reachBytes := by
        intro q hq
        refine hw q ?_
        simp only [DataW.weights, Yba.underlying22, List.mem_cons, List.mem_append]
        exact Or.inr (Or.inl (weightsAll_mem (List.mem_map.2 ⟨i, List.mem_range.2 hi, rfl⟩) q hq))
      obtain ⟨k1, k2, Z, k3⟩ := open_bytes (x := (D i, Pl i)) h2 hw3
      obtain ⟨b, off, spot⟩ := a'
      have hs : spot = none := by simpa [Addr.add] using World.cell?_spot (hx 0 (by omega)).1
      subst hs
      exact ⟨((ia, il, ic), Z), ⟨b, off, rfl, by rw [← add_plain]; exact h1⟩, k1, k2, k3⟩
    obtain ⟨y, hy⟩ := choose_lt each
    exact ⟨fun i => (y i).1.1, fun i => (y i).1.2.1, fun i => (y i).1.2.2, fun i => (y i).2, fun i hi => hy i hi⟩
end

set_option maxRecDepth 100000 in
theorem lifted (os : Os) (started : os.Started) (H : Type) (enc : TypeId × Value → H) :
    ReturnsInHanded {} Yba.checked os 3 .any (Rows.lawS6144AWholeSpec.pre6 enc Yba.prog Yba.f3 Rows.lawS6144AWholeRow.domain false) (Rows.lawS6144AWholeSpec.post enc Yba.prog Yba.f3 false true false false) := by
  refine returnsInHanded_of_change_sized (C := Yba.checked) own started (by kernel_rfl) Yba.func3
    (ChangeSpec.witness6 (enc := enc) (C := Yba.checked) false ⟨#[], #[.slice none 0 0, .int .u64 0], []⟩ 8 (by kernel_rfl) (by kernel_rfl) (by kernel_rfl) (by kernel_rfl)) ?_
  intro W base args ds gs before hval0 hW hcnd hsz0 _
  have hsz : (DataW.weightsEach Yba.prog (Yba.f3.params.toList ++ Rows.lawS6144AWholeSpec.plain.varTypes Yba.prog) (ds ++ gs)).all (· ≤ reachBytes) = true := hsz0
  have hval : ∀ (j : Nat) t v, Yba.f3.params[j]? = some t → args[j]? = some v → Value.okWide Yba.prog W .any base t v := hval0
  have hW' := hW
  obtain ⟨p, q, hA0, hV, rfl, hfz, hnd⟩ := hW
  have hA : DataW.TrodAll enc Yba.prog W 0 (fun _ => true) true Yba.f3.params.toList args.toList ds p := hA0
  rw [Yba.params3] at hA hval hsz
  obtain ⟨v0, vs0, d0, ds0, p0, q0, hargs, rfl, rfl, h0, r0⟩ := trodAll_cons hA
  obtain ⟨v1, vs1, d1, ds1, p1, q1, rfl, rfl, rfl, h1, r1⟩ := trodAll_cons r0
  obtain ⟨rfl, rfl, rfl⟩ := trodAll_nil r1
  obtain rfl : args = #[v0, v1] := by cases args; simp_all
  obtain ⟨rfl, rfl⟩ := trodVars_none hV
  obtain ⟨s0, n0, c0, rfl⟩ := okWide_slice Yba.underlying22 (hval 0 22 v0 rfl rfl)
  obtain ⟨a1, rfl, rfl, rfl, w1⟩ := open_int Yba.underlying23 (hval 1 23 v1 rfl rfl) h1
  have k0 := h0
  have lt0 : ∀ x ∈ p0, x.block < W.heap.size := by obtain ⟨m, hm⟩ := k0; exact DataW.trod_lt m _ _ _ hm
  obtain ⟨f0, g0⟩ := h0
  have hwt0 : ∀ m ∈ d0.weights Yba.prog 22, m ≤ reachBytes := fun m hm => of_decide_eq_true (List.all_eq_true.1 hsz _ (DataW.weights_mem_each (j := 0) (t := 22) rfl rfl m hm))
  obtain ⟨hn, A, L, C, Z, hp⟩ := open_parts (x := (d0, p0)) g0 hwt0
  have b1 := bounds_u64 w1
  clear hA0 hval0
  refine (law_walk s0 n0 c0 a1 A L C Z W hn b1.1 b1.2 hp).mono fun e W' ⟨he, bel⟩ => ?_
  subst he
  exact ⟨_, rfl, _, _, _, [], _, [], hW', trodAll_mk1 (shut_bool Yba.underlying4 _),
    (trodAll_cons_mk (Below.trod laidOut (by kernel_rfl) (of_decide_eq_true (by kernel_rfl)) k0 bel lt0) (trodAll_cons_mk (shut_int Yba.underlying23 w1) trodAll_mk0)), rfl, bel.frame _, fun h => by cases h⟩

theorem over : Rows.lawS6144AWholeRow.holds Yba.pinned (OpenSpec.ofChange Rows.lawS6144AWholeSpec) :=
  OpenClaim.holds_of_wide 3 Yba.f3 rfl rfl rfl rfl rfl rfl rfl ⟨rfl, rfl, rfl, rfl, rfl⟩ rfl rfl rfl rfl rfl (by kernel_rfl) Yba.func3 (by kernel_rfl)
    (of_decide_eq_true (by kernel_rfl)) (by unfold Func.isWrapper; first | (rw [if_pos (by decide +kernel)]; kernel_rfl) | (rw [if_neg (by decide +kernel)]; exact ⟨rfl, rfl⟩))
    (fun os started H enc _ => lifted os started H enc)

/-- THE STATEMENT -/
theorem proved : Rows.LawS6144AWholeSaid := over
#print axioms proved
end Go.Proofs.Ybulkdwfi.lawS6144AWhole
