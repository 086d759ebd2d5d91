import Derived.Test.YbulkdweuFill
namespace Go.Proofs.Ybulkdweu
open Go.RowKit

set_option maxRecDepth 100000 in
set_option maxHeartbeats 40000000 in
theorem lawB_walk (fl cmd app hop en pick code : Int) (a : Option Addr) (n c : Nat) (C F V : Nat → Int) (dA : Nat → Option Addr) (dN dC : Nat → Nat) (Z : Nat → Nat → Int) (da : Option Addr) (dn dc : Nat) (dZ : Nat → Int) (w : World)
    (hp0 : 0 ≤ pick) (hp1 : pick ≤ 255) (hn : n ≤ 140737488355328) (hdn : dn ≤ 140737488355328) (hanil : a = none → n = 0 ∧ c = 0) (hdnil : da = none → dn = 0 ∧ dc = 0)
    (hr : AvpAt w a n C F V (fun i => .slice (dA i) (dN i) (dC i))) (hrd : ∀ i, i < n → (dA i = none → dN i = 0 ∧ dC i = 0) ∧ dN i ≤ 140737488355328 ∧ ByteAt w (dA i) (dN i) (Z i)) (hd : ByteAt w da dn dZ) :
    Calls Yba.prog 3 #[.int .u8 fl, .int .u32 cmd, .int .u32 app, .int .u32 hop, .int .u32 en, .slice a n c, .int .u8 pick, .int .u32 code, .slice da dn dc] w fun e w' => e = .returned (.bool true) ∧ Below w.heap.size w w' := by
  have Hrd : Hid (∀ i, i < n → (dA i = none → dN i = 0 ∧ dC i = 0) ∧ dN i ≤ 140737488355328 ∧ ByteAt w (dA i) (dN i) (Z i)) := hrd
  have Hanil : Hid (a = none → n = 0 ∧ c = 0) := hanil
  have Hdnil : Hid (da = none → dn = 0 ∧ dc = 0) := hdnil
  clear hrd hanil hdnil
  by_cases h1 : 1048576 < n
  · clear hr Hrd hd
    go_enter Yba.func3, Yba.ntmps3
    go_wp2_with fail
    go_ret
    exact ⟨rfl, Below.refl _ _⟩
  by_cases h2 : 1048576 < dn
  · clear hr Hrd hd
    go_enter Yba.func3, Yba.ntmps3
    go_wp2_with fail
    go_ret
    exact ⟨rfl, Below.refl _ _⟩
  go_enter Yba.func3, Yba.ntmps3
  go_wp2_with fail
  go_loopg [19, 20] n (fun g t i wr => ∃ k : Nat, k + g = n ∧ i = .int .i64 k ∧ t = .int .i64 (sumTo dN k : Nat) ∧ sumTo dN k ≤ 1048576 ∧ w = wr)
  case atStart => exact ⟨0, by omega, rfl, rfl, by simp [sumTo], rfl⟩
  case round =>
    obtain ⟨k, hk, rfl, rfl, hs, rfl⟩ := hrel
    by_cases hlt : k < n
    · obtain ⟨b, off, rfl, _, _, _, c3⟩ := hr k hlt
      have hdk := (Hrd.out k hlt).2.1
      have HS : Hid (sumTo dN (k + 1) = sumTo dN k + dN k) := rfl
      by_cases hov : 1048576 < sumTo dN k + dN k
      · have hov' : (1048576 : Int) < (sumTo dN k : Int) + (dN k : Int) := by omega
        clear hr Hrd hd
        go_wp2_with fail
        go_ret
        exact ⟨rfl, Below.refl _ _⟩
      · have hov' : ¬ (1048576 : Int) < (sumTo dN k : Int) + (dN k : Int) := by omega
        clear hr Hrd hd
        go_wp2_with fail
        go_roundg (n - (k + 1))
        case measure => omega
        case rel => exact ⟨k + 1, by omega, by go_num, by rw [HS.out]; go_num, by rw [HS.out]; omega, rfl⟩
    · obtain rfl : n = k := by omega
      have Hall : Hid (∀ i, i < n → dN i ≤ 1048576) := fun i hi => Nat.le_trans (le_sumTo dN n i hi) hs
      clear hs
      go_upto_region 10 with fail
      go_cut [63] from 56 to 63 (fun t wc => ∃ bb : Bool, t = .bool bb ∧ (bb = true → 0 < n) ∧ w = wc)
      case first =>
        by_cases h0 : 0 < n
        · go_wp2_with fail
          go_meet
          exact ⟨_, rfl, fun _ => h0, rfl⟩
        · go_wp2_with fail
          go_meet
          exact ⟨_, rfl, fun h => absurd h (by decide), rfl⟩
      case rest =>
        obtain ⟨bb, rfl, hbb, rfl⟩ := hcut
        go_upto_if 63 with fail
        go_cut [7] from 63 to 73 (fun cv wc => ∃ code' : Int, cv = .int .u32 code' ∧ w = wc)
        case first =>
          cases bb with
          | true =>
            have h0 := hbb rfl
            have hi1 := Int.emod_lt_of_pos (pick / 2) (show (0 : Int) < n by omega)
            have hi0 := Int.emod_nonneg (pick / 2) (show (n : Int) ≠ 0 by omega)
            have hix : (((pick / 2) % (n : Int)).toNat) < n := by omega
            obtain ⟨b, off, rfl, c0, _⟩ := hr (((pick / 2) % (n : Int)).toNat) hix
            clear hr Hrd hd
            go_wp2_with fail
            go_meet
            exact ⟨_, rfl, rfl⟩
          | false =>
            go_wp2_with fail
            go_meet
            exact ⟨_, rfl, rfl⟩
        case rest =>
          obtain ⟨code', rfl, rfl⟩ := hcut
          clear hbb
          have hnn := fun w a l c => run_neq_slice_nil_any (P := Yba.prog) w 23 26 a l c 0 0 Yba.underlying23
          go_upto_if 75 with fail
          go_cut [21, 22] from 18 to 137 (fun l wv wc => ∃ la wa DL DW, l = .slice la n n ∧ wv = .slice wa n n ∧ la.isNone = a.isNone ∧ wa.isNone = a.isNone ∧ Built wc la n C F V dN (fun i => (dA i).isNone) Z DL ∧ Built wc wa n C F V dN (fun i => (dA i).isNone) Z DW ∧ (∀ x, la = some x → Plain wc x.block) ∧ Below w.heap.size w wc)
          case first =>
            cases a with
            | none =>
              obtain ⟨rfl, rfl⟩ := Hanil.out rfl
              go_wp2_with fail
              go_meet
              exact ⟨none, none, fun _ => none, fun _ => none, rfl, rfl, rfl, rfl, ⟨fun i hi => absurd hi (Nat.not_lt_zero _), fun i hi => absurd hi (Nat.not_lt_zero _)⟩, ⟨fun i hi => absurd hi (Nat.not_lt_zero _), fun i hi => absurd hi (Nat.not_lt_zero _)⟩, fun x hx => (by cases hx), Below.refl _ _⟩
            | some x =>
              have hmk := run_make_avps n (by omega)
              go_wp2_with fail
              go_loopg [23] n (fun g i wr => ∃ k : Nat, k + g = n ∧ i = .int .i64 k ∧ Filled wr (w.heap.size + 2) w.heap.size n k C F V dN (fun i => (dA i).isNone) Z ∧ Filled wr (w.heap.size + 2) (w.heap.size + 1) n k C F V dN (fun i => (dA i).isNone) Z ∧ Below w.heap.size w wr)
              case atStart =>
                obtain ⟨f1, q1⟩ := rowIs_avpZero n w
                obtain ⟨f2, q2⟩ := rowIs_avpZero n (w.alloc (.cells (avpZero n) 31))
                rw [World.size_alloc] at q2
                exact ⟨0, by omega, rfl, ⟨f1, fun _ => none, q1.alloc _, fun j hj => by omega, fun j hj => absurd hj (Nat.not_lt_zero _)⟩, ⟨f2, fun _ => none, q2, fun j hj => by omega, fun j hj => absurd hj (Nat.not_lt_zero _)⟩, ((Below.refl _ _).alloc (Nat.le_refl _) _).alloc (by simp) _⟩
              case round =>
                obtain ⟨k, hk, rfl, hL, hW, hbel⟩ := hrel
                by_cases hlt : k < n
                · obtain ⟨b', off', hxe', c0', _⟩ := hr k hlt
                  have hbw := cell_lt c0'
                  obtain ⟨b, off, hxe, c0, c1, c2, c3⟩ := hr.below hbel (Nat.le_refl _) k hlt
                  obtain rfl : x = ⟨b, off, none⟩ := by simpa using hxe
                  obtain ⟨rfl, rfl⟩ : b = b' ∧ off = off' := by simpa using hxe'
                  clear hxe hxe' c0'
                  have hI : (k : Int) < (n : Int) := by omega
                  have hI0 : (0 : Int) ≤ (k : Int) := by omega
                  have hk20 := Hall.out k hlt
                  have hkn := (Hrd.out k hlt).1
                  have hkb : ByteAt wr (dA k) (dN k) (Z k) := (Hrd.out k hlt).2.2.below hbel (Nat.le_refl _)
                  have Hkn : Hid (dA k = none → dN k = 0 ∧ dC k = 0) := hkn
                  have hbs : b < wr.heap.size := cell_lt c0
                  have hne : b ≠ w.heap.size := Nat.ne_of_lt hbw
                  clear hkn
                  have hlo : w.heap.size + 2 ≤ wr.heap.size := (hW.choose_spec.choose_spec.1).lt
                  obtain ⟨fL, q1⟩ : ∃ fL, wr.rowIs w.heap.size 31 (n * 4) fL := ⟨_, hL.choose_spec.choose_spec.1⟩
                  have l0 := q1.cell (i := k * 4) (by omega)
                  have l1 := q1.cell (i := k * 4 + 1) (by omega)
                  have l2 := q1.cell (i := k * 4 + 2) (by omega)
                  have l3 := q1.cell (i := k * 4 + 3) (by omega)
                  have hLlt := q1.lt
                  have z0 := q1.frozen (k * 4)
                  have z1 := q1.frozen (k * 4 + 1)
                  have z2 := q1.frozen (k * 4 + 2)
                  have z3 := q1.frozen (k * 4 + 3)
                  have HL := hide hL
                  have HW := hide hW
                  have HB := hide hbel
                  have HR := hide hr
                  clear hL hW hr q1 hbel
                  go_upto_region 20 with fail
                  go_region_held3 (fun w' => w'.cell? ⟨b, off + k * 4, none⟩ = some (.int .u32 (C k)) ∧ w'.cell? ⟨b, off + k * 4 + 1, none⟩ = some (.int .u8 (F k)) ∧ w'.cell? ⟨b, off + k * 4 + 2, none⟩ = some (.int .u32 (V k)) ∧ w'.cell? ⟨b, off + k * 4 + 3, none⟩ = some (.slice (dA k) (dN k) (dC k)))
                    (first | exact ⟨c0, c1, c2, c3⟩ | exact s4 | exact four_store hne s4)
                    ((go_at_call 5; refine (clone_any (dA k) (dN k) (dC k) (Z k) _ Hkn.out hk20 (by exact hkb)).mono ?_; rintro e w1 ⟨a1, rfl, hz1, hy1, hx1, hb1⟩; have s4 := four_below hb1 hbs ⟨c0, c1, c2, c3⟩; have m0 := (hb1.cell (p := ⟨w.heap.size, k * 4, none⟩) hLlt).trans l0; have m1 := (hb1.cell (p := ⟨w.heap.size, k * 4 + 1, none⟩) hLlt).trans l1; have m2 := (hb1.cell (p := ⟨w.heap.size, k * 4 + 2, none⟩) hLlt).trans l2; have m3 := (hb1.cell (p := ⟨w.heap.size, k * 4 + 3, none⟩) hLlt).trans l3; have y0 := (hb1.frozen (p := ⟨w.heap.size, k * 4, none⟩) hLlt).trans z0; have y1 := (hb1.frozen (p := ⟨w.heap.size, k * 4 + 1, none⟩) hLlt).trans z1; have y2 := (hb1.frozen (p := ⟨w.heap.size, k * 4 + 2, none⟩) hLlt).trans z2; have y3 := (hb1.frozen (p := ⟨w.heap.size, k * 4 + 3, none⟩) hLlt).trans z3))
                  clear m0 m1 m2 m3 y0 y1 y2 y3 l0 l1 l2 l3 z0 z1 z2 z3
                  have hb1' : Below wr.heap.size wr w1 := ⟨hb1.os, hb1.tape, hb1.output, hb1.size, hb1.block⟩
                  clear hb1
                  have hL2 := HL.out.step (w1 := w1) hb1' hlt (show w.heap.size < w.heap.size + 2 by omega) hz1 hy1 (fun x hx => Nat.le_trans hlo (hx1 x hx))
                  have hW2 := (((((HW.out.below (B := wr.heap.size) hb1' (Nat.le_refl _)).setOther (p := ⟨w.heap.size, k * 4, none⟩) (show w.heap.size + 1 ≠ w.heap.size by omega) (show w.heap.size < w.heap.size + 2 by omega) (.int .u32 (C k))).setOther (p := ⟨w.heap.size, k * 4 + 1, none⟩) (show w.heap.size + 1 ≠ w.heap.size by omega) (show w.heap.size < w.heap.size + 2 by omega) (.int .u8 (F k))).setOther (p := ⟨w.heap.size, k * 4 + 2, none⟩) (show w.heap.size + 1 ≠ w.heap.size by omega) (show w.heap.size < w.heap.size + 2 by omega) (.int .u32 (V k))).setOther (p := ⟨w.heap.size, k * 4 + 3, none⟩) (show w.heap.size + 1 ≠ w.heap.size by omega) (show w.heap.size < w.heap.size + 2 by omega) (.slice a1 (dN k) (dN k)))
                  have hbel2 := ((((HB.out.trans (hb1'.mono HB.out.size)).setCell (p := ⟨w.heap.size, k * 4, none⟩) (Nat.le_refl _) (.int .u32 (C k))).setCell (p := ⟨w.heap.size, k * 4 + 1, none⟩) (Nat.le_refl _) (.int .u8 (F k))).setCell (p := ⟨w.heap.size, k * 4 + 2, none⟩) (Nat.le_refl _) (.int .u32 (V k))).setCell (p := ⟨w.heap.size, k * 4 + 3, none⟩) (Nat.le_refl _) (.slice a1 (dN k) (dN k))
                  clear HL HW HB hb1' hkb c0 c1 c2 c3 s4 hbs hx1 hy1 hz1 hLlt hlo hne
                  generalize ((((w1.setCell ⟨w.heap.size, k * 4, none⟩ (.int .u32 (C k))).setCell ⟨w.heap.size, k * 4 + 1, none⟩ (.int .u8 (F k))).setCell ⟨w.heap.size, k * 4 + 2, none⟩ (.int .u32 (V k))).setCell ⟨w.heap.size, k * 4 + 3, none⟩ (.slice a1 (dN k) (dN k))) = w2 at *
                  obtain ⟨b', off', hxe, c0, c1, c2, c3⟩ := HR.out.below hbel2 (Nat.le_refl _) k hlt
                  obtain ⟨rfl, rfl⟩ : b = b' ∧ off = off' := by simpa using hxe
                  clear hxe
                  have hbs : b < w2.heap.size := cell_lt c0
                  have hne : b ≠ w.heap.size + 1 := by omega
                  have hkb : ByteAt w2 (dA k) (dN k) (Z k) := (Hrd.out k hlt).2.2.below hbel2 (Nat.le_refl _)
                  have hlo : w.heap.size + 2 ≤ w2.heap.size := (hW2.choose_spec.choose_spec.1).lt
                  obtain ⟨fW, q1⟩ : ∃ fL, w2.rowIs (w.heap.size + 1) 31 (n * 4) fL := ⟨_, hW2.choose_spec.choose_spec.1⟩
                  have l0 := q1.cell (i := k * 4) (by omega)
                  have l1 := q1.cell (i := k * 4 + 1) (by omega)
                  have l2 := q1.cell (i := k * 4 + 2) (by omega)
                  have l3 := q1.cell (i := k * 4 + 3) (by omega)
                  have hLlt := q1.lt
                  have z0 := q1.frozen (k * 4)
                  have z1 := q1.frozen (k * 4 + 1)
                  have z2 := q1.frozen (k * 4 + 2)
                  have z3 := q1.frozen (k * 4 + 3)
                  have HL := hide hL2
                  have HW := hide hW2
                  have HB := hide hbel2
                  clear hL2 hW2 q1 hbel2
                  go_upto_region 21 with fail
                  go_region_held3 (fun w' => w'.cell? ⟨b, off + k * 4, none⟩ = some (.int .u32 (C k)) ∧ w'.cell? ⟨b, off + k * 4 + 1, none⟩ = some (.int .u8 (F k)) ∧ w'.cell? ⟨b, off + k * 4 + 2, none⟩ = some (.int .u32 (V k)) ∧ w'.cell? ⟨b, off + k * 4 + 3, none⟩ = some (.slice (dA k) (dN k) (dC k)))
                    (first | exact ⟨c0, c1, c2, c3⟩ | exact s4 | exact four_store hne s4)
                    ((go_at_call 5; refine (clone_any (dA k) (dN k) (dC k) (Z k) _ Hkn.out hk20 (by exact hkb)).mono ?_; rintro e w3 ⟨a1, rfl, hz1, hy1, hx1, hb1⟩; have s4 := four_below hb1 hbs ⟨c0, c1, c2, c3⟩; have m0 := (hb1.cell (p := ⟨w.heap.size + 1, k * 4, none⟩) hLlt).trans l0; have m1 := (hb1.cell (p := ⟨w.heap.size + 1, k * 4 + 1, none⟩) hLlt).trans l1; have m2 := (hb1.cell (p := ⟨w.heap.size + 1, k * 4 + 2, none⟩) hLlt).trans l2; have m3 := (hb1.cell (p := ⟨w.heap.size + 1, k * 4 + 3, none⟩) hLlt).trans l3; have y0 := (hb1.frozen (p := ⟨w.heap.size + 1, k * 4, none⟩) hLlt).trans z0; have y1 := (hb1.frozen (p := ⟨w.heap.size + 1, k * 4 + 1, none⟩) hLlt).trans z1; have y2 := (hb1.frozen (p := ⟨w.heap.size + 1, k * 4 + 2, none⟩) hLlt).trans z2; have y3 := (hb1.frozen (p := ⟨w.heap.size + 1, k * 4 + 3, none⟩) hLlt).trans z3))
                  clear m0 m1 m2 m3 y0 y1 y2 y3 l0 l1 l2 l3 z0 z1 z2 z3
                  have hb1' : Below w2.heap.size w2 w3 := ⟨hb1.os, hb1.tape, hb1.output, hb1.size, hb1.block⟩
                  clear hb1
                  have hW3 := HW.out.step (w1 := w3) hb1' hlt (show w.heap.size + 1 < w.heap.size + 2 by omega) hz1 hy1 (fun x hx => Nat.le_trans hlo (hx1 x hx))
                  have hne2 : w.heap.size ≠ w.heap.size + 1 := by omega
                  have hlt2 : w.heap.size + 1 < w.heap.size + 2 := by omega
                  have hL3 := (((((HL.out.below (B := w2.heap.size) hb1' (Nat.le_refl _)).setOther (p := ⟨w.heap.size + 1, k * 4, none⟩) hne2 hlt2 (.int .u32 (C k))).setOther (p := ⟨w.heap.size + 1, k * 4 + 1, none⟩) hne2 hlt2 (.int .u8 (F k))).setOther (p := ⟨w.heap.size + 1, k * 4 + 2, none⟩) hne2 hlt2 (.int .u32 (V k))).setOther (p := ⟨w.heap.size + 1, k * 4 + 3, none⟩) hne2 hlt2 (.slice a1 (dN k) (dN k)))
                  have hbel3 := ((((HB.out.trans (hb1'.mono HB.out.size)).setCell (p := ⟨w.heap.size + 1, k * 4, none⟩) (Nat.le_succ _) (.int .u32 (C k))).setCell (p := ⟨w.heap.size + 1, k * 4 + 1, none⟩) (Nat.le_succ _) (.int .u8 (F k))).setCell (p := ⟨w.heap.size + 1, k * 4 + 2, none⟩) (Nat.le_succ _) (.int .u32 (V k))).setCell (p := ⟨w.heap.size + 1, k * 4 + 3, none⟩) (Nat.le_succ _) (.slice a1 (dN k) (dN k))
                  clear HL HW HB hb1' hkb c0 c1 c2 c3 s4 hbs hx1 hy1 hz1 hLlt hlo hne
                  generalize ((((w3.setCell ⟨w.heap.size + 1, k * 4, none⟩ (.int .u32 (C k))).setCell ⟨w.heap.size + 1, k * 4 + 1, none⟩ (.int .u8 (F k))).setCell ⟨w.heap.size + 1, k * 4 + 2, none⟩ (.int .u32 (V k))).setCell ⟨w.heap.size + 1, k * 4 + 3, none⟩ (.slice a1 (dN k) (dN k))) = w4 at *
                  have HL3 := hide hL3
                  have HW3 := hide hW3
                  have HB3 := hide hbel3
                  clear hL3 hW3 hbel3
                  go_wp2_with fail
                  go_roundg (n - (k + 1))
                  case measure => omega
                  case rel => exact ⟨k + 1, by omega, by go_num, HL3.out, HW3.out, HB3.out⟩
                · obtain rfl : n = k := by omega
                  obtain ⟨DL, qL⟩ := hL.built
                  obtain ⟨DW, qW⟩ := hW.built
                  obtain ⟨fL, qp⟩ : ∃ fL, wr.rowIs w.heap.size 31 (n * 4) fL := ⟨_, hL.choose_spec.choose_spec.1⟩
                  have HL := hide qL
                  have HW := hide qW
                  have HB := hide hbel
                  have HP : Hid (Plain wr w.heap.size) := ⟨_, _, qp.choose_spec.1⟩
                  clear hL hW qL qW hbel qp
                  go_wp2_with fail
                  go_meet
                  exact ⟨_, _, DL, DW, rfl, rfl, rfl, rfl, HL.out, HW.out, fun x hx => (by cases hx; exact HP.out), HB.out⟩
          case rest =>
            obtain ⟨la, wa, DL, DW, rfl, rfl, hla, hwa, hBL, hBW, hpl, hbel⟩ := hcut
            have Hpl := hide hpl
            clear hpl
            have hd1 := hd.below hbel (Nat.le_refl _)
            have HD := hide hd
            have HR := hide hr
            clear hd hr
            go_wp2_with fail
            refine (clone_any da dn dc dZ _ Hdnil.out (by omega) hd1).mono ?_
            rintro e w1 ⟨dca, rfl, hdca, hdc1, _, hb1⟩
            have hd2 := hd1.below hb1 (Nat.le_refl _)
            have hBL2 := hBL.below hb1 (Nat.le_refl _)
            have hBW2 := hBW.below hb1 (Nat.le_refl _)
            have hbel2 : Below w.heap.size w w1 := hbel.trans (hb1.mono hbel.size)
            have Hpl1 : Hid (∀ x, la = some x → Plain w1 x.block) := fun x hx => (Hpl.out x hx).below hb1 (Hpl.out x hx).lt
            clear hd1 hBL hBW hb1 hbel Hpl
            go_wp2_with fail
            have hb0 : ∀ o, Below w1.heap.size w1 (w1.alloc o) := fun o => (Below.refl _ _).alloc (Nat.le_refl _) _
            refine (set_both w1.heap.size la n n C F V dN DL code' da dn dc _ (by omega) (hBL2.1.below (hb0 _) (Nat.le_refl _)) (by simp) (by simp)).mono ?_
            rintro e w2 ⟨rfl, r, ma, mc, hfst, hm5, hman, hmrow, hge, hlt0, hb2, hrest⟩
            have m0 : w2.cell? ⟨w1.heap.size, 0, none⟩ = some (.int .u8 fl) := (hrest 0 (by decide)).trans (by simp)
            have m1 : w2.cell? ⟨w1.heap.size, 1, none⟩ = some (.int .u32 cmd) := (hrest 1 (by decide)).trans (by simp)
            have m2 : w2.cell? ⟨w1.heap.size, 2, none⟩ = some (.int .u32 app) := (hrest 2 (by decide)).trans (by simp)
            have m3 : w2.cell? ⟨w1.heap.size, 3, none⟩ = some (.int .u32 hop) := (hrest 3 (by decide)).trans (by simp)
            have m4 : w2.cell? ⟨w1.heap.size, 4, none⟩ = some (.int .u32 en) := (hrest 4 (by decide)).trans (by simp)
            have hb12 : Below w1.heap.size w1 w2 := (hb0 _).trans hb2
            have HL : Hid (Built w2 la n C F V dN (fun i => (dA i).isNone) Z DL) := hBL2.below hb12 (Nat.le_refl _)
            have HW : Hid (Built w2 wa n C F V dN (fun i => (dA i).isNone) Z DW) := hBW2.below hb12 (Nat.le_refl _)
            have Hla : Hid (∀ b off, la = some ⟨b, off, none⟩ → 0 < n → b < w1.heap.size) := by
              intro b off e h0
              obtain ⟨b', off', e', c0, _⟩ := hBL2.1 0 h0
              rw [e] at e'
              simp at e'
              rw [e'.1]
              exact cell_lt c0
            have Hpl2 : Hid (∀ x, la = some x → Plain w2 x.block) := fun x hx => (Hpl1.out x hx).below hb12 (Hpl1.out x hx).lt
            have hd3 := hd2.below hb12 (Nat.le_refl _)
            have hdc3 := hdc1.below hb12 (Nat.le_refl _)
            have Hb3 : Hid (Below w.heap.size w w2) := hbel2.trans (hb12.mono hbel2.size)
            have Hf := hide hfst
            have Hrow := hide hmrow
            have Hge := hide hge
            have Hlt := hide hlt0
            clear Hpl1
            clear hrest hb2 hb12 hBL2 hBW2 hd2 hdc1 hbel2 hfst hmrow hge hlt0 hb0
            generalize w1.heap.size = mb at *
            go_wp2_with fail
            refine (beq_any da dca dn dc dn dZ _ hdca (by omega) hd3 hdc3).mono ?_
            rintro e w3 ⟨rfl, q, rfl⟩
            go_wp2_with fail
            have hm5n := fun w a l c => Lib.run_eql_slice_nil (P := Yba.prog) w 27 31 a l c 0 0 Yba.underlying27
            have hbq := below_drewN w2.heap.size w2 q
            have HL' : Hid (Built (w2.drewN q) la n C F V dN (fun i => (dA i).isNone) Z DL) := HL.out.below hbq (Nat.le_refl _)
            have HW' : Hid (Built (w2.drewN q) wa n C F V dN (fun i => (dA i).isNone) Z DW) := HW.out.below hbq (Nat.le_refl _)
            have hd4 := hd3.below hbq (Nat.le_refl _)
            have hm5' : (w2.drewN q).cell? ⟨mb, 5, none⟩ = some (.slice ma n mc) := hm5
            have Hrow' := hide (Hrow.out.below hbq (Nat.le_refl _))
            have Hpl3 : Hid (∀ x, la = some x → Plain (w2.drewN q) x.block) := fun x hx => (Hpl2.out x hx).below hbq (Hpl2.out x hx).lt
            have Hge' : Hid (0 ≤ r → ∃ g, ma = some ⟨g, 0, none⟩ ∧ mb < g ∧ Plain (w2.drewN q) g) := fun h => by
              obtain ⟨g, e, h1, h2⟩ := Hge.out h
              exact ⟨g, e, h1, h2.below hbq h2.lt⟩
            clear Hpl2 Hge
            have Hb4 : Hid (Below w.heap.size w (w2.drewN q)) := Hb3.out.trans (hbq.mono Hb3.out.size)
            clear HL HW hd3 hdc3 hm5 Hrow Hb3 m0 m1 m2 m3 m4 hbq
            generalize w2.drewN q = w3 at *
            go_loopg [26, 27] n (fun g ix i wr => ∃ k : Nat, k + g = n ∧ i = .int .i64 k ∧ ix = .int .i64 (-1) ∧ (∀ j, j < k → (C j == code' && V j == 0) = false) ∧ w3 = wr)
            case atStart => exact ⟨0, by omega, rfl, rfl, fun j hj => absurd hj (Nat.not_lt_zero _), rfl⟩
            case round =>
              obtain ⟨k, hk, rfl, rfl, hno, rfl⟩ := hrel
              have Hno := hide hno
              clear hno
              by_cases hnx : k < n ∧ (C k == code' && V k == 0) = false
              · obtain ⟨hlt, hh⟩ := hnx
                obtain ⟨b, off, rfl, c0, c1, c2, c3⟩ := HW'.out.1 k hlt
                by_cases hc : (C k == code') = true
                · have hv : (V k == 0) = false := by simpa [hc] using hh
                  clear hh
                  go_wp2_with fail
                  go_roundg (n - (k + 1))
                  case measure => omega
                  case rel => exact ⟨k + 1, by omega, by go_num, rfl, fun j hj => by
                    by_cases e : j = k
                    · subst e; simp [hc, hv]
                    · exact Hno.out j (by omega), rfl⟩
                · have hc' : (C k == code') = false := by simpa using hc
                  clear hh hc
                  go_wp2_with fail
                  go_roundg (n - (k + 1))
                  case measure => omega
                  case rel => exact ⟨k + 1, by omega, by go_num, rfl, fun j hj => by
                    by_cases e : j = k
                    · subst e; simp [hc']
                    · exact Hno.out j (by omega), rfl⟩
              rcases (show (k < n ∧ (C k == code' && V k == 0) = true) ∨ k = n from by
                by_cases e : k = n
                · exact .inr e
                · exact .inl ⟨by omega, by simpa using fun h => hnx ⟨by omega, h⟩⟩) with hq | hq
              case' inl =>
                obtain ⟨hlt, hh⟩ := hq
                have hkr : (k : Int) = r := (show IsFirst (fun i => C i == code' && V i == 0) n k from .inr ⟨k, hlt, rfl, hh, Hno.out⟩).uniq Hf.out
                have Hkr := hide hkr
                obtain ⟨b, off, ewa, c0, c1, c2, c3⟩ := HW'.out.1 k hlt
                rw [ewa]
                have Hewa := hide ewa
                clear ewa
                simp only [Bool.and_eq_true] at hh
                obtain ⟨hc, hv⟩ := hh
                clear hkr hnx
                go_wp2_with fail
                rw [← Hewa.out, Hkr.out]
                clear c0 c1 c2 c3
              case' inr =>
                obtain rfl : n = k := hq.symm
                have Hkr : Hid ((-1 : Int) = r) := (show IsFirst (fun i => C i == code' && V i == 0) n (-1) from .inl ⟨rfl, Hno.out⟩).uniq Hf.out
                clear hnx
                go_wp2_with fail
                rw [Hkr.out]
              all_goals
                clear Hno hk
                go_loopg [28] n (fun g i wr => ∃ j : Nat, j + g = n ∧ i = .int .i64 j ∧ Below w3.heap.size w3 wr)
                case atStart => exact ⟨0, by omega, rfl, Below.refl _ _⟩
                case round =>
                  obtain ⟨j, hk, rfl, hbr⟩ := hrel
                  by_cases hlt : j < n
                  · obtain ⟨b1, o1, e1, c0, c1, c2, c3⟩ := HW'.out.1.below hbr (Nat.le_refl _) j hlt
                    cases e1
                    obtain ⟨b2, o2, e2, d0, d1, d2, d3⟩ := Hrow'.out.below hbr (Nat.le_refl _) j hlt
                    cases e2
                    have g5 := (hbr.cell (cell_lt hm5')).trans hm5'
                    have hs1 := cell_lt c0
                    have hs2 := cell_lt d0
                    have hs3 := cell_lt g5
                    dsimp only at hs1 hs2 hs3
                    by_cases hjr : (j : Int) = r
                    · have hjr' : ((j : Int) == r) = true := by simpa using hjr
                      simp only [if_pos hjr] at d3
                      have hd5 := hd4.below hbr (Nat.le_refl _)
                      have Hjr := hide hjr
                      clear hjr
                      go_wp2_with fail
                      refine (beq_any da da dn dc dc dZ _ rfl (by omega) (hd5.below (below_alloc2 _ _ _) (Nat.le_refl _)) (hd5.below (below_alloc2 _ _ _) (Nat.le_refl _))).mono ?_
                      rintro e w4 ⟨rfl, q4, rfl⟩
                      go_upto_region 47 with fail
                      by_cases h0 : 0 < dn
                      · have h0' : (0 : Int) < (dn : Int) := by omega
                        obtain ⟨db, doff, e3, _⟩ := hd5 0 h0
                        cases e3
                        obtain ⟨j5, hj5, _⟩ := info_of Yba.info5
                        have hpp := fun w a => run_neq_ptr_same (P := Yba.prog) w a Yba.underlying38 hj5
                        go_quiet (fail)
                        go_wp2_with fail
                        go_roundg (n - (j + 1))
                        case measure => omega
                        case rel => exact ⟨j + 1, by omega, by go_num, hbr.trans (((below_alloc2 _ _ _).trans (below_drewN _ _ _)).mono hbr.size)⟩
                      · have h0' : decide ((0 : Int) < (dn : Int)) = false := decide_eq_false (by omega)
                        go_quiet (fail)
                        go_wp2_with fail
                        go_roundg (n - (j + 1))
                        case measure => omega
                        case rel => exact ⟨j + 1, by omega, by go_num, hbr.trans (((below_alloc2 _ _ _).trans (below_drewN _ _ _)).mono hbr.size)⟩
                    · have hjr' : ((j : Int) == r) = false := by simpa using hjr
                      simp only [if_neg hjr] at d3
                      obtain ⟨n1, y1⟩ := HL'.out.2 j hlt
                      obtain ⟨n2, y2⟩ := HW'.out.2 j hlt
                      have y1' := y1.below hbr (Nat.le_refl _)
                      have y2' := y2.below hbr (Nat.le_refl _)
                      have h20 := Hall.out j hlt
                      have Hn12 : Hid ((DW j).isNone = (DL j).isNone) := n2.trans n1.symm
                      clear n1 n2 y1 y2 hjr
                      go_wp2_with fail
                      refine (beq_any (DL j) (DW j) (dN j) (dN j) (dN j) (Z j) _ Hn12.out h20 (y1'.below (below_alloc2 _ _ _) (Nat.le_refl _)) (y2'.below (below_alloc2 _ _ _) (Nat.le_refl _))).mono ?_
                      rintro e w4 ⟨rfl, q4, rfl⟩
                      go_wp2_with fail
                      go_roundg (n - (j + 1))
                      case measure => omega
                      case rel => exact ⟨j + 1, by omega, by go_num, hbr.trans (((below_alloc2 _ _ _).trans (below_drewN _ _ _)).mono hbr.size)⟩
                  · have Hbr := hide hbr
                    clear hbr hk
                    go_wp2_with fail
                    go_loopg [31] n (fun g i w5 => ∃ j : Nat, j + g = n ∧ i = .int .i64 j ∧ Below w3.heap.size w3 w5)
                    case atStart => exact ⟨0, by omega, rfl, Hbr.out⟩
                    case round =>
                      obtain ⟨j, hk, rfl, hb5⟩ := hrel
                      by_cases hlt : j < n
                      · obtain ⟨b1, o1, e1, c0, c1, c2, c3⟩ := HW'.out.1.below hb5 (Nat.le_refl _) j hlt
                        cases e1
                        obtain ⟨b2, o2, e2, d0, d1, d2, d3⟩ := HL'.out.1.below hb5 (Nat.le_refl _) j hlt
                        cases e2
                        obtain ⟨n1, y1⟩ := HL'.out.2 j hlt
                        obtain ⟨n2, y2⟩ := HW'.out.2 j hlt
                        have y1' := y1.below hb5 (Nat.le_refl _)
                        have y2' := y2.below hb5 (Nat.le_refl _)
                        have h20 := Hall.out j hlt
                        have Hn12 : Hid ((DW j).isNone = (DL j).isNone) := n2.trans n1.symm
                        have hs1 := cell_lt c0
                        have hs2 := cell_lt d0
                        have hI : (j : Int) < (n : Int) := by omega
                        have hI0 : (0 : Int) ≤ (j : Int) := by omega
                        clear n1 n2 y1 y2
                        dsimp only at c3 d3 hs1 hs2
                        have HB5 := hide hb5
                        clear hb5
                        go_upto_region 54 with fail
                        go_region_held3 (fun w' => w'.cell? ⟨b2, o2 + j * 4, none⟩ = some (.int .u32 (C j)) ∧ w'.cell? ⟨b2, o2 + j * 4 + 1, none⟩ = some (.int .u8 (F j)) ∧ w'.cell? ⟨b2, o2 + j * 4 + 2, none⟩ = some (.int .u32 (V j)) ∧ w'.cell? ⟨b2, o2 + j * 4 + 3, none⟩ = some (.slice (DL j) (dN j) (dN j)) ∧
                            w'.cell? ⟨b1, o1 + j * 4, none⟩ = some (.int .u32 (C j)) ∧ w'.cell? ⟨b1, o1 + j * 4 + 1, none⟩ = some (.int .u8 (F j)) ∧ w'.cell? ⟨b1, o1 + j * 4 + 2, none⟩ = some (.int .u32 (V j)) ∧ w'.cell? ⟨b1, o1 + j * 4 + 3, none⟩ = some (.slice (DW j) (dN j) (dN j)))
                          (first | exact ⟨d0, d1, d2, d3, c0, c1, c2, c3⟩ | exact s8)
                          ((go_at_call 8; refine (bsame_any (C j) (F j) (V j) (DL j) (DW j) (dN j) (dN j) (dN j) (Z j) _ Hn12.out h20 (by exact y1') (by exact y2')).mono ?_; rintro e w6 ⟨rfl, hb6⟩; have s8 := eight_below hb6 hs2 hs1 ⟨d0, d1, d2, d3, c0, c1, c2, c3⟩))
                        have hb6' : Below w3.heap.size w3 w6 := HB5.out.trans (Below.mono (B := wr.heap.size) ⟨hb6.os, hb6.tape, hb6.output, hb6.size, hb6.block⟩ HB5.out.size)
                        clear hb6 s8 c0 c1 c2 c3 d0 d1 d2 d3 y1' y2'
                        go_wp2_with fail
                        go_roundg (n - (j + 1))
                        case measure => omega
                        case rel => exact ⟨j + 1, by omega, by go_num, hb6'⟩
                      · have hfin : Below w.heap.size w wr := Hb4.out.trans (hb5.mono Hb4.out.size)
                        have Hfin := hide hfin
                        have g5 := (hb5.cell (cell_lt hm5')).trans hm5'
                        by_cases h0 : 0 < n
                        · obtain ⟨b1, o1, e1, c0, _⟩ := HL'.out.1 0 h0
                          cases e1
                          have hpl := Hpl3.out _ rfl
                          have hplr := hpl.below hb5 hpl.lt
                          have hlb := Hla.out _ _ rfl h0
                          have h0' : (0 : Int) < (n : Int) := by omega
                          by_cases hr0 : 0 ≤ r
                          · obtain ⟨g, rfl, hgm, hpg⟩ := Hge'.out hr0
                            have hpgr := hpg.below hb5 hpg.lt
                            have hrn : decide (r < 0) = false := decide_eq_false (by omega)
                            obtain ⟨j31, hj31, hs31⟩ := info_of Yba.info31
                            dsimp only at hpl hplr
                            have hpe := fun m => run_eql_ptr_plain (P := Yba.prog) (wr.drewN m) (a := ⟨g, 0, none⟩) (b := ⟨b1, o1, none⟩) Yba.underlying40 hj31 (by rw [hs31]; decide) (by simp <;> omega) (hpgr.below (below_drewN (wr.heap.size) _ _) hpgr.lt) (hplr.below (below_drewN (wr.heap.size) _ _) hplr.lt)
                            clear hb5 hfin hpl hplr hpg hpgr
                            go_upto_region 57 with fail
                            go_quiet (fail)
                            go_upto_region 59 with fail
                            go_quiet (fail)
                            go_wp2_with fail
                            go_ret
                            exact ⟨rfl, Hfin.out.trans (below_drewN _ _ _)⟩
                          · have hrn : decide (0 ≤ r) = false := decide_eq_false (by omega)
                            have hrn2 : r < 0 := by omega
                            have hmm := Hlt.out hrn2
                            subst hmm
                            obtain ⟨j31, hj31, hs31⟩ := info_of Yba.info31
                            have hpp := fun w a => run_neq_ptr_same (P := Yba.prog) w a Yba.underlying40 hj31
                            clear hb5 hfin hpl hplr
                            go_upto_region 57 with fail
                            go_quiet (fail)
                            go_upto_region 59 with fail
                            go_quiet (fail)
                            go_wp2_with fail
                            go_ret
                            exact ⟨rfl, Hfin.out.trans (below_drewN _ _ _)⟩
                        · clear hb5 hfin
                          go_wp2_with fail
                          go_ret
                          exact ⟨rfl, Hfin.out⟩
end Go.Proofs.Ybulkdweu
