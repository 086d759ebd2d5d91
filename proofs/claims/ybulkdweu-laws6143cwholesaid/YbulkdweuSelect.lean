import Derived.Conc.LoneCalls
import Derived.WalkKit
namespace Go.Proofs.Ybulkdweu
open Go.Conc Go.RowKit

section
variable {P : Program} {fr : Frame} {cs : List Frame} {w w₁ : World} {es : Array Event} {c cap s r : Nat} {z : Value} {tm : Bool}

/-- A select of ONE receive, with a default, the channel closed and its buffer empty: the receive: index 0. -/
theorem step_lone_select_shut (h : stepG P true (G fr cs) w = .comm (G fr cs) #[rcase c z] false .select w₁ es) (hc : w₁.heap[c]? = some (.chan cap #[] true s r tm)) :
    step P (solo (G fr cs) w) = .next (solo (G (fr.finish (.tuple #[goInt 0, .bool false, z])) cs) w₁) := by
  have hp := partners_alone (c := c) true
  rw [step, stepT_solo rfl]
  simp [runT, solo, G, Array.swapAt!, Array.swapAt, h, GStep.es, communicate, ways, rcase, hc, hp, choose, Sem.run, Question.forced, bind, Sem.bind, pure, Goroutine.finishComm, commResult] at h ⊢

variable {b : Frame} {a : Act} {k : List Item} {main : Bool}

/-- A communication is handed up to the machine, whatever the frame's kind. -/
theorem stepG_comm_any {ops : Array Oper} {i : Nat} {rest : List Nat} {o : Oper} {cases : Array CommCase} {blocking : Bool} {shape : CommShape} {w' : World} (ho : ops[i]? = some o) (hw : Region.wanted o (yielded ops a.tmps) = true)
    (hr : (execOp a.eval o).run P w = .ok (.comm cases blocking shape) w') :
    ∃ es, stepG P main (G (b.at a (.inRegion ops (i :: rest) :: k)) cs) w = .comm (G (b.at a (.inRegion ops (i :: rest) :: k)) cs) cases blocking shape w' es := by
  rw [stepG_oper ho hw]
  simp [stepG.apply, hr, G, Frame.at, GStep.after]

end

/-- A REGION THAT BEGINS WITH A SELECT OF ONE RECEIVE AND A DEFAULT: in a machine of one. 'closed': what it yields. -/
theorem wp_region_select {P : Program} {id : Nat} {o : Oper} {l : List Oper} {Q : Exit → Act → World → Prop} {a : Act} {w : World} {c cap s r : Nat} {z : Value} {closed tm : Bool}
    (hg : o.guard = none) (hr : (execOp a.eval o).run P w = .ok (.comm #[rcase c z] false .select) w) (hc : w.heap[c]? = some (.chan cap #[] closed s r tm))
    (h : wpList P (o :: l).toArray Q l (a.put o.dst (.tuple #[goInt (if closed then 0 else -1), .bool false, z])) w) : (Code.region id (o :: l).toArray false).wp P Q a w := by
  intro b k cs
  have ho : (o :: l).toArray[0]? = some o := by simp
  have hw : Region.wanted o (yielded (o :: l).toArray a.tmps) = true := by simp [Region.wanted, hg]
  have hl : wpOps P (o :: l).toArray Q (List.range' 1 l.length) = wpList P (o :: l).toArray Q l := wpOps_eq_wpList l 1 (fun j => by simp [Nat.add_comm 1 j])
  rw [← hl] at h
  obtain ⟨e, a', w', hq, harr⟩ := wp_ops _ _ _ h b k cs
  obtain ⟨es, hs⟩ := stepG_comm_any (b := b) (k := k) (cs := cs) (main := true) (rest := List.range' 1 l.length) ho hw hr
  have hrange : List.range (o :: l).toArray.size = 0 :: List.range' 1 l.length := by
    simp [List.range_eq_range', List.range'_succ]
  have hfin := Frame.finish_at b a (o :: l).toArray 0 (List.range' 1 l.length) k (.tuple #[goInt (if closed then 0 else -1), .bool false, z])
  rw [ho] at hfin
  have hstep : step P (lone (b.at a (.inRegion (o :: l).toArray (0 :: List.range' 1 l.length) :: k)) cs w) = .next (lone (b.at (a.put o.dst (.tuple #[goInt (if closed then 0 else -1), .bool false, z])) (.inRegion (o :: l).toArray (List.range' 1 l.length) :: k)) cs w) := by
    rw [lone_eq_solo, lone_eq_solo]
    have e2 : (b.at (a.put o.dst (.tuple #[goInt (if closed then 0 else -1), .bool false, z])) (.inRegion (o :: l).toArray (List.range' 1 l.length) :: k)) = (b.at a (.inRegion (o :: l).toArray (0 :: List.range' 1 l.length) :: k)).finish (.tuple #[goInt (if closed then 0 else -1), .bool false, z]) := by
      rw [hfin]; rfl
    rw [e2]
    cases closed with
    | true => exact step_lone_select_shut hs hc
    | false => exact step_lone_select_default hs hc
  refine ⟨e, a', w', hq, .of_steps (.head ?_ (.one hstep)) harr⟩
  rw [← hrange]
  exact step_region

end Go.Proofs.Ybulkdweu
