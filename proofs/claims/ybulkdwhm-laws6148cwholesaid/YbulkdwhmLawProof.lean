import Derived.Test.YbulkdwhmLaw
import Derived.ProofKit
import Derived.Deep.Slices
import Derived.Lib.SmallJoins
import Derived.OpenShut
import Derived.ShutString
import Derived.ChangeOld
namespace Go.Proofs.Ybulkdwhm.lawS6148CWhole
set_option linter.unusedVariables false
set_option linter.unusedSimpArgs false
open Go.ChangeShapes Go.WideShapes Go.ChangeAt Go.RowKit Go.Deep
open Go.ChangeMaps (open_string shut_string)

theorem own : ownKnob Yba.prog.godebug = none := by kernel_rfl
theorem laidOut : laidOutB Yba.prog = true := by kernel_rfl
theorem cells2 : Yba.prog.cellsOf 2 = 1 := by kernel_rfl
theorem cells4 : Yba.prog.cellsOf 4 = 1 := by kernel_rfl
theorem cells9 : Yba.prog.cellsOf 9 = 1 := by kernel_rfl
theorem cells72 : Yba.prog.cellsOf 72 = 4 := by kernel_rfl

section
variable {H : Type} {enc : TypeId × Value → H} {w : World}

set_option maxRecDepth 100000 in
/-- The entries that came in. -/
theorem open_entries {fuel : Nat} {a : Option Addr} {n c : Nat} {x : DataW H × List MemPlace} (h : DataW.trod enc Yba.prog w 0 (fun _ => true) true fuel 52 [.slice a n c] = some x) :
    n ≤ maxLen ∧ ∃ (K : Nat → ByteArray) (X : Nat → Int) (P : Nat → Bool) (C : Nat → ByteArray), EntAt w a n K X P C ∧ ∀ i, i < n → -9223372036854775808 ≤ X i ∧ X i ≤ 9223372036854775807 := by
  rcases open_slice Yba.underlying52 h with ⟨hcs, _⟩ | ⟨a', len, cap, m, fu, D, Pl, hcs, _, hl, hm, hmm, rfl, hx⟩
  · simp at hcs
    obtain ⟨rfl, rfl, rfl⟩ := hcs
    exact ⟨Nat.zero_le _, fun _ => ByteArray.empty, fun _ => 0, fun _ => false, fun _ => ByteArray.empty, fun i hi => absurd hi (Nat.not_lt_zero _), fun i hi => absurd hi (Nat.not_lt_zero _)⟩
  · simp at hcs
    obtain ⟨rfl, rfl, rfl⟩ := hcs
    simp only [if_true] at hmm
    subst hmm
    have hspot : 0 < n → a'.spot = none := by
      intro h0
      obtain ⟨cs', h1, h2⟩ := hx 0 (by omega)
      rw [cells72] at h1
      obtain ⟨_, hl4, hc4⟩ := World.cells?_some h1
      match cs', hl4 with
      | [v0, v1, v2, v3], _ =>
      have g0 := hc4 0 (by omega)
      simp at g0
      simpa [Addr.add] using World.cell?_spot g0
    have each : ∀ i, i < n → ∃ y : (ByteArray × Int) × (Bool × ByteArray), (∃ b off, some a' = some ⟨b, off, none⟩ ∧ w.cell? ⟨b, off + i * 4, none⟩ = some (.string y.1.1) ∧ w.cell? ⟨b, off + i * 4 + 1, none⟩ = some (.int .i64 y.1.2) ∧
        w.cell? ⟨b, off + i * 4 + 2, none⟩ = some (.bool y.2.1) ∧ w.cell? ⟨b, off + i * 4 + 3, none⟩ = some (.string y.2.2)) ∧ -9223372036854775808 ≤ y.1.2 ∧ y.1.2 ≤ 9223372036854775807 := by
      intro i hi
      obtain ⟨cs', h1, h2⟩ := hx i (by omega)
      rw [cells72] at h1
      obtain ⟨_, hl4, hc4⟩ := World.cells?_some h1
      obtain ⟨y0, y1, y2, y3, n', hD, _, t0, t1, t2, t3⟩ := Joins.trod_struct4 Yba.underlying72 h2
      match cs', hl4 with
      | [v0, v1, v2, v3], _ =>
      simp only [cells2, cells4, cells9] at t0 t1 t2 t3
      simp at t0 t1 t2 t3
      obtain ⟨z0, e0, _, _⟩ := DataW.trod_string Yba.underlying9 t0
      obtain ⟨z1, e1, _, w1⟩ := DataW.trod_int Yba.underlying2 t1
      obtain ⟨z2, e2, _⟩ := DataW.trod_bool Yba.underlying4 t2
      obtain ⟨z3, e3, _, _⟩ := DataW.trod_string Yba.underlying9 t3
      simp at e0 e1 e2 e3
      subst e0 e1 e2 e3
      have g0 := hc4 0 (by omega)
      have g1 := hc4 1 (by omega)
      have g2 := hc4 2 (by omega)
      have g3 := hc4 3 (by omega)
      obtain ⟨b, off, spot⟩ := a'
      have hs : spot = none := hspot (by omega)
      subst hs
      simp only [add_plain] at g0 g1 g2 g3
      simp at g0 g1 g2 g3
      exact ⟨((z0, z1), (z2, z3)), ⟨b, off, rfl, g0, g1, g2, g3⟩, (bounds_i64 w1).1, (bounds_i64 w1).2⟩
    obtain ⟨y, hy⟩ := choose_lt each
    exact ⟨by omega, fun i => (y i).1.1, fun i => (y i).1.2, fun i => (y i).2.1, fun i => (y i).2.2, fun i hi => (hy i hi).1, fun i hi => (hy i hi).2⟩
end

set_option maxRecDepth 100000 in
theorem lifted (os : Os) (started : os.Started) (H : Type) (enc : TypeId × Value → H) :
    ReturnsInHanded {} Yba.checked os 4 .any (Rows.lawS6148CWholeSpec.pre6 enc Yba.prog Yba.f4 Rows.lawS6148CWholeRow.domain false) (Rows.lawS6148CWholeSpec.post enc Yba.prog Yba.f4 false true false false) := by
  refine returnsInHanded_of_change (C := Yba.checked) own started (by kernel_rfl) Yba.func4
    (ChangeSpec.witness6 (enc := enc) (C := Yba.checked) false ⟨#[], #[.bool false, .slice none 0 0, .string ByteArray.empty, .string ByteArray.empty, .string ByteArray.empty, .string ByteArray.empty, .bool false, .int .i64 0, .int .i64 0], []⟩ 8 (by kernel_rfl) (by kernel_rfl) (by kernel_rfl) (by kernel_rfl)) ?_
  intro W base args ds gs before hval0 hW hcnd _
  have hval : ∀ (j : Nat) t v, Yba.f4.params[j]? = some t → args[j]? = some v → Value.okWide Yba.prog W .any base t v := hval0
  have hW' := hW
  obtain ⟨p, q, hA0, hV, rfl, hfz, hnd⟩ := hW
  have hA : DataW.TrodAll enc Yba.prog W 0 (fun _ => true) true Yba.f4.params.toList args.toList ds p := hA0
  rw [Yba.params4] at hA hval
  obtain ⟨v0, vs0, d0, ds0, p0, q0, hargs, rfl, rfl, h0, r0⟩ := trodAll_cons hA
  obtain ⟨v1, vs1, d1, ds1, p1, q1, rfl, rfl, rfl, h1, r1⟩ := trodAll_cons r0
  obtain ⟨v2, vs2, d2, ds2, p2, q2, rfl, rfl, rfl, h2, r2⟩ := trodAll_cons r1
  obtain ⟨v3, vs3, d3, ds3, p3, q3, rfl, rfl, rfl, h3, r3⟩ := trodAll_cons r2
  obtain ⟨v4, vs4, d4, ds4, p4, q4, rfl, rfl, rfl, h4, r4⟩ := trodAll_cons r3
  obtain ⟨v5, vs5, d5, ds5, p5, q5, rfl, rfl, rfl, h5, r5⟩ := trodAll_cons r4
  obtain ⟨v6, vs6, d6, ds6, p6, q6, rfl, rfl, rfl, h6, r6⟩ := trodAll_cons r5
  obtain ⟨v7, vs7, d7, ds7, p7, q7, rfl, rfl, rfl, h7, r7⟩ := trodAll_cons r6
  obtain ⟨v8, vs8, d8, ds8, p8, q8, rfl, rfl, rfl, h8, r8⟩ := trodAll_cons r7
  obtain ⟨rfl, rfl, rfl⟩ := trodAll_nil r8
  obtain rfl : args = #[v0, v1, v2, v3, v4, v5, v6, v7, v8] := by cases args; simp_all
  obtain ⟨rfl, rfl⟩ := trodVars_none hV
  obtain ⟨a0, rfl, rfl, rfl⟩ := open_bool Yba.underlying4 (hval 0 4 v0 rfl rfl) h0
  obtain ⟨s1, n1, c1, rfl⟩ := okWide_slice Yba.underlying52 (hval 1 52 v1 rfl rfl)
  obtain ⟨a2, rfl, rfl, rfl, w2⟩ := open_string Yba.underlying9 (hval 2 9 v2 rfl rfl) h2
  obtain ⟨a3, rfl, rfl, rfl, w3⟩ := open_string Yba.underlying9 (hval 3 9 v3 rfl rfl) h3
  obtain ⟨a4, rfl, rfl, rfl, w4⟩ := open_string Yba.underlying9 (hval 4 9 v4 rfl rfl) h4
  obtain ⟨a5, rfl, rfl, rfl, w5⟩ := open_string Yba.underlying9 (hval 5 9 v5 rfl rfl) h5
  obtain ⟨a6, rfl, rfl, rfl⟩ := open_bool Yba.underlying4 (hval 6 4 v6 rfl rfl) h6
  obtain ⟨a7, rfl, rfl, rfl, w7⟩ := open_int Yba.underlying2 (hval 7 2 v7 rfl rfl) h7
  obtain ⟨a8, rfl, rfl, rfl, w8⟩ := open_int Yba.underlying2 (hval 8 2 v8 rfl rfl) h8
  have k1 := h1
  have lt1 : ∀ x ∈ p1, x.block < W.heap.size := by obtain ⟨m, hm⟩ := k1; exact DataW.trod_lt m _ _ _ hm
  obtain ⟨f1, g1⟩ := h1
  obtain ⟨hn, K, X, P, C, hent, hX⟩ := open_entries (x := (d1, p1)) g1
  clear hA0 hval0
  refine (law_walk a0 s1 n1 c1 a2 a3 a4 a5 a6 a7 a8 K X P C W hent hn hX (bounds_i64 w7) (bounds_i64 w8)).mono fun e W' ⟨he, bel⟩ => ?_
  subst he
  exact ⟨_, rfl, _, _, _, [], _, [], hW', trodAll_mk1 (shut_bool Yba.underlying4 _),
    (trodAll_cons_mk (shut_bool Yba.underlying4 _) (trodAll_cons_mk (Below.trod laidOut (by kernel_rfl) (of_decide_eq_true (by kernel_rfl)) k1 bel lt1) (trodAll_cons_mk (shut_string Yba.underlying9 w2) (trodAll_cons_mk (shut_string Yba.underlying9 w3) (trodAll_cons_mk (shut_string Yba.underlying9 w4) (trodAll_cons_mk (shut_string Yba.underlying9 w5) (trodAll_cons_mk (shut_bool Yba.underlying4 _) (trodAll_cons_mk (shut_int Yba.underlying2 w7) (trodAll_cons_mk (shut_int Yba.underlying2 w8) trodAll_mk0))))))))), rfl, bel.frame _, fun h => by cases h⟩

theorem over : Rows.lawS6148CWholeRow.holds Yba.pinned (OpenSpec.ofChange Rows.lawS6148CWholeSpec) :=
  OpenClaim.holds_of_wide 4 Yba.f4 rfl rfl rfl rfl rfl rfl rfl ⟨rfl, rfl, rfl, rfl, rfl⟩ rfl rfl rfl rfl rfl (by kernel_rfl) Yba.func4 (by kernel_rfl)
    (of_decide_eq_true (by kernel_rfl)) (by unfold Func.isWrapper; first | (rw [if_pos (by decide +kernel)]; kernel_rfl) | (rw [if_neg (by decide +kernel)]; exact ⟨rfl, rfl⟩))
    (fun os started H enc _ => lifted os started H enc)

/-- THE STATEMENT -/
theorem proved : Rows.LawS6148CWholeSaid := over
#print axioms proved
end Go.Proofs.Ybulkdwhm.lawS6148CWhole
