import Derived.Test.YbulkdwhmAdd
import Derived.Test.YbulkdwhmTry
namespace Go.Proofs.Ybulkdwhm
open Go.RowKit Go.MuLone
set_option linter.unusedVariables false
set_option linter.unusedSimpArgs false

/-- The response. -/
abbrev tokCells (ac tt sc pa en rt : ByteArray) : Array Value := #[.string ac, .string tt, .int .i64 7, .string sc, .string pa, .string en, .string rt, .nilIface]

/-- What stands behind keep. -/
def Kept (w : World) (gb n c : Nat) (L : List (ByteArray × Value)) (K : Nat → ByteArray) (X : Nat → Int) (key : ByteArray) (v : Value) (ex : Int) : Prop :=
  ∃ mb q cap, GAt w gb 0 (some mb) (.slice (some ⟨q, 0, none⟩) (n - c + 1) cap) ∧ MapIs str w mb (putL (dels K L c) key v) ∧ gb < mb ∧ gb < q ∧ (∀ i, i < n - c → KeyAt w q i (K (c + i)) (X (c + i))) ∧ KeyAt w q (n - c) key ex

set_option maxHeartbeats 1000000 in
set_option maxRecDepth 100000 in
theorem keep_nil (cl ac tt sc pa en rt : ByteArray) (la : Bool) (ex at_ : Int) (w : World) :
    Calls Yba.prog 13 #[.pointer none, .string cl, .agg (tokCells ac tt sc pa en rt), .bool la, T ex, T at_] w fun e w' => e = .returned (.tuple #[]) ∧ Below w.heap.size w w' := by
  unfold T tokCells
  go_enter_defers Yba.func13, Yba.ntmps13
  go_wp2_with fail
  exact ⟨_, results_none rfl _ _ _, rfl, (((Below.refl _ _).alloc (Nat.le_refl _) _).alloc (by simp) _).alloc (by simp; omega) _⟩

theorem rowIs_of_array {w : World} (cs : Array Value) (t : TypeId) : (w.alloc (.cells cs t)).rowIs w.heap.size t cs.size (fun i => cs.getD i undef) :=
  World.rowIs_alloc w cs t _ fun i hi => by simp [hi]

set_option maxHeartbeats 4000000 in
set_option maxRecDepth 100000 in
theorem keep_spec (gb n : Nat) (mv : Option Nat) (L : List (ByteArray × Value)) (qv : Value) (K : Nat → ByteArray) (X : Nat → Int) (cl ac tt sc pa en rt : ByteArray) (la : Bool) (ex at_ : Int) (w : World) (hst : St w gb 0 mv L qv n 0 K X) (hn : n ≤ 65536) :
    Calls Yba.prog 13 #[.pointer (some ⟨gb, 0, none⟩), .string cl, .agg (tokCells ac tt sc pa en rt), .bool la, T ex, T at_] w fun e w' => e = .returned (.tuple #[]) ∧ Kept w' gb n (old X at_ n 0) L K X ac (G cl sc pa la ex) ex ∧ Below gb w w' := by
  have HS := hide hst
  have hgl := hst.1.lt
  clear hst
  have HV0 := hide (rowIs_of_array (w := w) (tokCells ac tt sc pa en rt) 62)
  have HT0 := hide (TAt.made (w.alloc (.cells (tokCells ac tt sc pa en rt) 62)) ex)
  have HA0 := hide (TAt.made ((w.alloc (.cells (tokCells ac tt sc pa en rt) 62)).alloc (.cells #[.int .u64 (ex % 1000000000), .int .i64 (ex / 1000000000), .pointer none] 56)) at_)
  have HBw := hide ((((Below.refl w.heap.size w).alloc (Nat.le_refl _) (.cells (tokCells ac tt sc pa en rt) 62)).alloc (by simp) (.cells #[.int .u64 (ex % 1000000000), .int .i64 (ex / 1000000000), .pointer none] 56)).alloc (by simp; omega) (.cells #[.int .u64 (at_ % 1000000000), .int .i64 (at_ / 1000000000), .pointer none] 56))
  have HV1 := hide (World.rowIs.alloc (World.rowIs.alloc HV0.out (.cells #[.int .u64 (ex % 1000000000), .int .i64 (ex / 1000000000), .pointer none] 56)) (.cells #[.int .u64 (at_ % 1000000000), .int .i64 (at_ / 1000000000), .pointer none] 56))
  have HT1 := hide (World.rowIs.alloc HT0.out (.cells #[.int .u64 (at_ % 1000000000), .int .i64 (at_ / 1000000000), .pointer none] 56))
  have hsz : ∀ (w : World) o, (w.alloc o).heap.size = w.heap.size + 1 := fun w o => by simp
  have HA1 := HA0
  rw [hsz, hsz] at HA1
  rw [hsz] at HT1
  have HS1 := hide (HS.out.below HBw.out (Nat.le_refl _))
  clear HV0 HT0 HA0 HS hsz
  unfold T
  unfold tokCells at *
  go_enter_defers Yba.func13, Yba.ntmps13
  go_wp2_with fail
  generalize (((w.alloc (.cells #[.string ac, .string tt, .int .i64 7, .string sc, .string pa, .string en, .string rt, .nilIface] 62)).alloc (.cells #[.int .u64 (ex % 1000000000), .int .i64 (ex / 1000000000), .pointer none] 56)).alloc (.cells #[.int .u64 (at_ % 1000000000), .int .i64 (at_ / 1000000000), .pointer none] 56)) = w0 at *
  refine (lock_free Yba.muLib ⟨gb, 0, none⟩ _ HS1.out.1.cells.1 (HS1.out.1.frozen 0)).mono ?_
  rintro e w1 ⟨rfl, rfl⟩
  have HS2 : Hid (St (w0.setCell ⟨gb, 0, none⟩ (.int .i32 1)) gb 1 mv L qv n 0 K X) := ⟨HS1.out.1.setSt 1, HS1.out.2.1.setG _ _, HS1.out.2.2.setG _ _⟩
  have hk2 : Keeps w0 (w0.setCell ⟨gb, 0, none⟩ (.int .i32 1)) := (Keeps.refl w0).set HS1.out.1 (.inl rfl) _ _
  have hv := hk2 _ _ _ _ HV1.out (by decide) (by decide)
  have ht := hk2 _ _ _ _ HT1.out (by decide) (by decide)
  have ha := hk2 _ _ _ _ HA1.out (by decide) (by decide)
  have HB2 := hide ((HBw.out.mono (Nat.le_of_lt hgl)).setCell (p := ⟨gb, 0, none⟩) (Nat.le_refl _) (.int .i32 1))
  clear hk2 HS1 HV1 HT1 HA1 HBw
  generalize w0.setCell ⟨gb, 0, none⟩ (.int .i32 1) = w2 at *
  have v0 : w2.cell? ⟨w.heap.size, 0, none⟩ = some (.string ac) := hv.cell (i := 0) (by simp)
  have v3 : w2.cell? ⟨w.heap.size, 3, none⟩ = some (.string sc) := hv.cell (i := 3) (by simp)
  have v4 : w2.cell? ⟨w.heap.size, 4, none⟩ = some (.string pa) := hv.cell (i := 4) (by simp)
  obtain ⟨t0, t1, t2⟩ := TAt.cells ht
  obtain ⟨a0, a1, a2⟩ := TAt.cells ha
  have HV := hide hv
  have HT := hide ht
  have HA := hide ha
  clear hv ht ha
  go_upto_region 4 with fail
  go_region_held3 (fun w' => w'.cell? ⟨w.heap.size, 0, none⟩ = some (.string ac) ∧ w'.cell? ⟨w.heap.size, 3, none⟩ = some (.string sc) ∧ w'.cell? ⟨w.heap.size, 4, none⟩ = some (.string pa) ∧ w'.cell? ⟨w.heap.size + 1, 0, none⟩ = some (.int .u64 (ex % 1000000000)) ∧ w'.cell? ⟨w.heap.size + 1, 1, none⟩ = some (.int .i64 (ex / 1000000000)) ∧ w'.cell? ⟨w.heap.size + 1, 2, none⟩ = some (.pointer none) ∧ w'.cell? ⟨w.heap.size + 1 + 1, 0, none⟩ = some (.int .u64 (at_ % 1000000000)) ∧ w'.cell? ⟨w.heap.size + 1 + 1, 1, none⟩ = some (.int .i64 (at_ / 1000000000)) ∧ w'.cell? ⟨w.heap.size + 1 + 1, 2, none⟩ = some (.pointer none))
    (first | exact ⟨v0, v3, v4, t0, t1, t2, a0, a1, a2⟩ | exact s9)
    ((go_at_call 28; refine (add_spec gb n 1 mv L qv K X ac cl sc pa la ex at_ w2.drew (by exact HS2.out) hn).mono ?_; rintro e w3 ⟨rfl, hadd, hk3, hb3⟩; have hv3 := hk3 _ _ _ _ HV.out (by decide) (by decide); have ht3 := TAt.cells (hk3 _ _ _ _ HT.out (by decide) (by decide)); have ha3 := TAt.cells (hk3 _ _ _ _ HA.out (by decide) (by decide)); have s9 : w3.cell? ⟨w.heap.size, 0, none⟩ = some (.string ac) ∧ w3.cell? ⟨w.heap.size, 3, none⟩ = some (.string sc) ∧ w3.cell? ⟨w.heap.size, 4, none⟩ = some (.string pa) ∧ w3.cell? ⟨w.heap.size + 1, 0, none⟩ = some (.int .u64 (ex % 1000000000)) ∧ w3.cell? ⟨w.heap.size + 1, 1, none⟩ = some (.int .i64 (ex / 1000000000)) ∧ w3.cell? ⟨w.heap.size + 1, 2, none⟩ = some (.pointer none) ∧ w3.cell? ⟨w.heap.size + 1 + 1, 0, none⟩ = some (.int .u64 (at_ % 1000000000)) ∧ w3.cell? ⟨w.heap.size + 1 + 1, 1, none⟩ = some (.int .i64 (at_ / 1000000000)) ∧ w3.cell? ⟨w.heap.size + 1 + 1, 2, none⟩ = some (.pointer none) := ⟨hv3.cell (i := 0) (by simp), hv3.cell (i := 3) (by simp), hv3.cell (i := 4) (by simp), ht3.1, ht3.2.1, ht3.2.2, ha3.1, ha3.2.1, ha3.2.2⟩))
  have HK3 := hide hadd
  have HB3 := hide (HB2.out.trans (show Below gb w2 w3 from ⟨hb3.os, hb3.tape, hb3.output, hb3.size, hb3.block⟩))
  clear hadd hk3 hb3 hv3 ht3 ha3 s9 v0 v3 v4 t0 t1 t2 a0 a1 a2 HV HT HA HS2 HB2
  obtain ⟨mb, q, cap, hg, hm, hgm, hgq, hks, hkn⟩ := HK3.out
  have c0 := hg.cells.1
  have z0 := hg.frozen 0
  have HF := hide (show Kept (w3.setCell ⟨gb, 0, none⟩ (.int .i32 0)) gb n (old X at_ n 0) L K X ac (G cl sc pa la ex) ex from ⟨mb, q, cap, hg.setSt 0, hm.of_block (blk_set_other _ _ _ _ (show mb ≠ gb by omega)), hgm, hgq, fun i hi => (hks i hi).setG (by omega) _ _, hkn.setG (by omega) _ _⟩)
  clear hg hm hgm hgq hks hkn HK3
  go_wp2_with fail
  refine leaves_cons (f := 11) (args := #[.pointer (some ⟨gb, 0, none⟩)]) (by simp) (by simp [go_sem]) ?_
  refine (unlock_deferred Yba.muLib ⟨gb, 0, none⟩ .returning _ c0 z0).mono ?_
  rintro e u' w'' ⟨rfl, rfl, rfl⟩
  exact ⟨_, results_none rfl _ _ _, rfl, HF.out, HB3.out.setCell (Nat.le_refl _) _⟩
end Go.Proofs.Ybulkdwhm
