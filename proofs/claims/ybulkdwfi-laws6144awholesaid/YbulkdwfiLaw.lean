import Derived.Test.YbulkdwfiPart
import Derived.Deep.LoopGhost
import Derived.Deep.DeepCutAuto
namespace Go.Proofs.Ybulkdwfi
set_option linter.unusedVariables false
set_option linter.unusedSimpArgs false
open Go.RowKit

def sumTo (f : Nat → Nat) : Nat → Nat
  | 0 => 0
  | n + 1 => sumTo f n + f n

theorem sumTo_mono (f : Nat → Nat) : ∀ n i, i ≤ n → sumTo f i ≤ sumTo f n
  | 0, i, h => by have : i = 0 := by omega
                  subst this; exact Nat.le_refl _
  | n + 1, i, h => by
    by_cases e : i = n + 1
    · subst e; exact Nat.le_refl _
    · have := sumTo_mono f n i (by omega)
      show _ ≤ sumTo f n + f n
      omega

/-- All bytes of the first k parts, one behind another. -/
def catB (L : Nat → Nat) (Z : Nat → Nat → Int) : Nat → Nat → Int
  | 0 => fun _ => 0
  | k + 1 => fun i => if i < sumTo L k then catB L Z k i else Z k (i - sumTo L k)
/-- Where each of the first k parts ends. -/
def endsE (L : Nat → Nat) : Nat → Nat → Int
  | 0 => fun _ => 0
  | k + 1 => fun i => if i < k then endsE L k i else ((sumTo L k + L k : Nat) : Int)

theorem endsE_at (L : Nat → Nat) : ∀ k i, i < k → endsE L k i = ((sumTo L (i + 1) : Nat) : Int)
  | k + 1, i, h => by
    unfold endsE
    by_cases e : i < k
    · simp only [if_pos e]; exact endsE_at L k i e
    · have : i = k := by omega
      subst this
      simp only [if_neg e]
      rfl

theorem catB_at (L : Nat → Nat) (Z : Nat → Nat → Int) : ∀ k i t, i < k → t < L i → catB L Z k (sumTo L i + t) = Z i t
  | k + 1, i, t, h, ht => by
    unfold catB
    by_cases e : i < k
    · have h1 : sumTo L i + t < sumTo L k := by
        have := sumTo_mono L k (i + 1) (by omega)
        have h2 : sumTo L (i + 1) = sumTo L i + L i := rfl
        omega
      simp only [if_pos h1]
      exact catB_at L Z k i t e ht
    · have : i = k := by omega
      subst this
      rw [if_neg (by omega), show sumTo L i + t - sumTo L i = t from by omega]

/-- The parts as they came in. -/
def PartsAt (w : World) (a : Option Addr) (n : Nat) (A : Nat → Option Addr) (L C : Nat → Nat) (Z : Nat → Nat → Int) : Prop :=
  ∀ i, i < n → (∃ b off, a = some ⟨b, off, none⟩ ∧ w.cell? ⟨b, off + i, none⟩ = some (.slice (A i) (L i) (C i))) ∧ (A i = none → L i = 0 ∧ C i = 0) ∧ L i ≤ 140737488355328 ∧ NumAt .u8 w (A i) (L i) (Z i)

theorem PartsAt.below {w w' : World} {a : Option Addr} {n : Nat} {A : Nat → Option Addr} {L C : Nat → Nat} {Z : Nat → Nat → Int} (h : PartsAt w a n A L C Z) {B : Nat} (hb : Below B w w') (hB : w.heap.size ≤ B) : PartsAt w' a n A L C Z := by
  intro i hi
  obtain ⟨⟨b, off, rfl, h0⟩, h1, h2, h3⟩ := h i hi
  exact ⟨⟨b, off, rfl, (hb.cell (Nat.lt_of_lt_of_le (cell_lt h0) hB)).trans h0⟩, h1, h2, h3.below hb hB⟩

/-- part(IX), whatever the chunk: the bytes of part IX, at their place in the chunk's own row. -/
theorem part_both (kb n IX : Nat) (L : Nat → Nat) (Z : Nat → Nat → Int) (ba : Option Addr) (bc : Nat) (ea : Option Addr) (ec : Nat) (w : World) (c0 : w.cell? ⟨kb, 0, none⟩ = some (.slice ba (sumTo L n) bc)) (c1 : w.cell? ⟨kb, 1, none⟩ = some (.slice ea n ec))
    (hb : NumAt .u8 w ba (sumTo L n) (catB L Z n)) (he : NumAt .i64 w ea n (endsE L n)) (hbn : ba = none → sumTo L n = 0 ∧ bc = 0) (hbs : ∀ x, ba = some x → ∃ g, x = ⟨g, 0, none⟩) (hi : IX < n) (hn : n ≤ 65536) (hs : sumTo L n ≤ 1048576) (hnb : sumTo L n ≤ bc) (hbc : bc ≤ maxLen) :
    ∃ g, (0 < L IX → ba = some ⟨g, 0, none⟩) ∧ Calls Yba.prog 7 #[.pointer (some ⟨kb, 0, none⟩), .int .i64 IX] w (PartRes w g (sumTo L IX) (L IX)) := by
  have hsum := sumTo_mono L n (IX + 1) (by omega)
  have hs1 : sumTo L (IX + 1) = sumTo L IX + L IX := rfl
  cases ba with
  | none =>
    obtain ⟨h0, rfl⟩ := hbn rfl
    have hz : ∀ i, i < n → endsE L n i = 0 := fun i h => by
      rw [endsE_at L n i h]
      have := sumTo_mono L n (i + 1) (by omega)
      omega
    have hl : L IX = 0 := by omega
    have hsx : sumTo L IX = 0 := by omega
    refine ⟨0, fun h => by omega, ?_⟩
    rw [hl, hsx]
    rw [h0] at c0
    exact part_nil kb n IX _ ea ec w c0 c1 he hi hz hn 0
  | some x =>
    obtain ⟨g, rfl⟩ := hbs x rfl
    refine ⟨g, fun _ => rfl, ?_⟩
    have h := part_some 0 kb (sumTo L n) n IX (catB L Z n) (endsE L n) (sumTo L IX) (sumTo L (IX + 1)) g bc ea ec w c0 c1 hb he hi ?_ (endsE_at L n IX hi) (by omega) hsum hnb hn hs hbc
    · rwa [hs1, Nat.add_sub_cancel_left] at h
    · by_cases e : IX = 0
      · subst e; exact .inl ⟨rfl, rfl⟩
      · refine .inr ⟨by omega, ?_⟩
        rw [endsE_at L n (IX - 1) (by omega), show IX - 1 + 1 = IX from by omega]

/-- What got holds. -/
theorem got_num {w : World} {n IX g : Nat} {L : Nat → Nat} {Z : Nat → Nat → Int} {ba ga : Option Addr} (hb : NumAt .u8 w ba (sumTo L n) (catB L Z n)) (hi : IX < n) (hg : 0 < L IX → ba = some ⟨g, 0, none⟩) (hga : 0 < L IX → ga = some ⟨g, sumTo L IX, none⟩) : NumAt .u8 w ga (L IX) (Z IX) := by
  intro t ht
  have hsum := sumTo_mono L n (IX + 1) (by omega)
  have hs1 : sumTo L (IX + 1) = sumTo L IX + L IX := rfl
  obtain ⟨b, off, e, hc⟩ := hb (sumTo L IX + t) (by omega)
  rw [hg (by omega)] at e
  simp only [Option.some.injEq, Addr.mk.injEq, and_true] at e
  obtain ⟨rfl, rfl⟩ := e
  refine ⟨g, sumTo L IX, hga (by omega), ?_⟩
  rw [Nat.zero_add] at hc
  rw [hc, catB_at L Z n IX t hi ht]

set_option maxRecDepth 100000 in
set_option maxHeartbeats 4000000 in
theorem law_walk (a : Option Addr) (n c : Nat) (iv : Int) (A : Nat → Option Addr) (L C : Nat → Nat) (Z : Nat → Nat → Int) (w : World) (hn : n ≤ 140737488355328) (hi0 : 0 ≤ iv) (hi1 : iv ≤ 18446744073709551615) (hp : PartsAt w a n A L C Z) :
    Calls Yba.prog 3 #[.slice a n c, .int .u64 iv] w fun e w' => e = .returned (.bool true) ∧ Below w.heap.size w w' := by
  have HP := hide hp
  clear hp
  by_cases h1 : 65536 < n
  · clear HP
    go_enter Yba.func3, Yba.ntmps3
    go_wp2_with fail
    go_ret
    exact ⟨rfl, Below.refl _ _⟩
  go_enter Yba.func3, Yba.ntmps3
  go_wp2_with fail
  go_loopg [5, 22] n (fun g t i wr => ∃ k : Nat, k + g = n ∧ i = .int .i64 k ∧ t = .int .i64 (sumTo L k : Nat) ∧ sumTo L k ≤ 1048576 ∧ w = wr)
  case atStart => exact ⟨0, by omega, rfl, rfl, by simp [sumTo], rfl⟩
  case round =>
    obtain ⟨k, hk, rfl, rfl, hs, rfl⟩ := hrel
    by_cases hlt : k < n
    · obtain ⟨⟨b, off, rfl, c3⟩, _, hdk, _⟩ := HP.out k hlt
      have HS : Hid (sumTo L (k + 1) = sumTo L k + L k) := rfl
      by_cases hov : 1048576 < sumTo L k + L k
      · have hov' : (1048576 : Int) < (sumTo L k : Int) + (L k : Int) := by omega
        go_wp2_with fail
        go_ret
        exact ⟨rfl, Below.refl _ _⟩
      · have hov' : ¬ (1048576 : Int) < (sumTo L k : Int) + (L k : Int) := by omega
        go_wp2_with fail
        go_roundg (n - (k + 1))
        case measure => omega
        case rel => exact ⟨k + 1, by omega, by go_num, by rw [HS.out]; go_num, by rw [HS.out]; omega, rfl⟩
    · obtain rfl : n = k := by omega
      have Hs := hide hs
      by_cases h0 : n = 0
      · have h0' : ((n : Int) == 0) = true := by simp [h0]
        clear hs HP
        go_wp2_with fail
        go_ret
        exact ⟨rfl, Below.refl _ _⟩
      · have h0' : ((n : Int) == 0) = false := by simp [h0]
        clear hs
        have hK0 : Kept (w.alloc (.cells #[.slice none 0 0, .slice none 0 0] 27)) (w.heap.size + 1) w.heap.size 0 0 (catB L Z 0) (endsE L 0) :=
          ⟨none, 0, none, 0, by simp, by simp, by simp, by simp, World.ownsRow_nil _ _ _ _, World.ownsRow_nil _ _ _ _, by omega, by simp⟩
        have HK0 := hide hK0
        clear hK0
        go_wp2_with fail
        go_loopg [38] n (fun g i wr => ∃ k : Nat, k + g = n ∧ i = .int .i64 k ∧ Kept wr (w.heap.size + 1) w.heap.size (sumTo L k) k (catB L Z k) (endsE L k) ∧ Below w.heap.size w wr)
        case atStart => exact ⟨0, by omega, rfl, HK0.out, (Below.refl _ _).alloc (Nat.le_refl _) _⟩
        case round =>
          clear HK0
          obtain ⟨k, hk, rfl, hK, hbel⟩ := hrel
          by_cases hlt : k < n
          · obtain ⟨⟨b, off, rfl, c3⟩, hnil, _, hz⟩ := HP.out.below hbel (Nat.le_refl _) k hlt
            have hsum := sumTo_mono L n (k + 1) (by omega)
            have hsum' : sumTo L k + L k ≤ sumTo L n := hsum
            have hle : sumTo L k + L k ≤ 1048576 := Nat.le_trans hsum' Hs.out
            have HK := hide hK
            have Hnil := hide hnil
            have Hz := hide hz
            have HB := hide hbel
            clear hK hnil hz hbel hsum hsum'
            go_wp2_with fail
            refine (add_any (w.heap.size + 1) w.heap.size (sumTo L k) k (catB L Z k) (endsE L k) (A k) (L k) (C k) (Z k) _ HK.out Hz.out Hnil.out hle (by omega)).mono ?_
            rintro e w2 ⟨rfl, hK2, hb2⟩
            have HK2 := hide hK2
            have HB2 := hide (HB.out.trans hb2)
            clear hK2 hb2 HK HB Hz
            go_wp2_with fail
            go_roundg (n - (k + 1))
            case measure => omega
            case rel => exact ⟨k + 1, by omega, by go_num, HK2.out, HB2.out⟩
          · obtain rfl : n = k := by omega
            obtain ⟨ba, bc, ea, ec, c0, c1, f0, f1, hob, hoe, hkb, hbs⟩ := hK
            obtain ⟨ba', bc', e1, bn1, bn2, bn3, bn4, bnum⟩ := NumAt.of_owned hob
            obtain ⟨ea', ec', e2, en1, en2, en3, en4, enum⟩ := NumAt.of_owned hoe
            simp only [Value.slice.injEq, true_and] at e1 e2
            obtain ⟨rfl, rfl⟩ := e1
            obtain ⟨rfl, rfl⟩ := e2
            have HB := hide hbel
            have Hbn1 := hide bn1
            have Hbn2 := hide bn2
            have Hbn3 := hide bn3
            have Hbn4 := hide bn4
            have Hbnum := hide bnum
            have Henum := hide enum
            clear hbel hob hoe f0 f1 bn1 bn2 bn3 bn4 bnum enum en1 en2 en3 en4 hbs
            obtain ⟨xb, xo, rfl, _⟩ := Henum.out 0 (by omega)
            have hm0 := Int.emod_nonneg iv (show (n : Int) ≠ 0 by omega)
            have hm1 := Int.emod_lt_of_pos iv (show (0 : Int) < n by omega)
            obtain ⟨IX, hIX⟩ : ∃ IX : Nat, iv % (n : Int) = (IX : Int) := ⟨(iv % (n : Int)).toNat, by omega⟩
            have hIXn : IX < n := by omega
            clear hm0 hm1
            go_wp2_with fail
            refine (bclone_any ba (sumTo L n) bc (catB L Z n) _ Hs.out Hbn1.out Hbnum.out).mono ?_
            rintro e w2 ⟨ca, cc, rfl, hcn, hcz, hb2⟩
            have d0 := (hb2.cell (cell_lt c0)).trans c0
            have d1 := (hb2.cell (cell_lt c1)).trans c1
            have Hnum2 := hide (Hbnum.out.below hb2 (Nat.le_refl _))
            have Henum2 := hide (Henum.out.below hb2 (Nat.le_refl _))
            have HB2 := hide (HB.out.trans (hb2.mono HB.out.size))
            have Hcz := hide hcz
            have Hcn := hide hcn
            clear c0 c1 hb2 hcz hcn HB Hbnum Henum
            go_wp2_with fail
            refine (iclone_some ⟨xb, xo, none⟩ n ec (endsE L n) _ (by omega) Henum2.out).mono ?_
            rintro e w3 ⟨ia, ic, rfl, hiz, hb3⟩
            have c0 := (hb3.cell (cell_lt d0)).trans d0
            have c1 := (hb3.cell (cell_lt d1)).trans d1
            have Hnum3 := hide (Hnum2.out.below hb3 (Nat.le_refl _))
            have Henum3 := hide (Henum2.out.below hb3 (Nat.le_refl _))
            have HB3 := hide (HB2.out.trans (hb3.mono HB2.out.size))
            have Hcz3 := hide (Hcz.out.below hb3 (Nat.le_refl _))
            have Hiz := hide hiz
            clear d0 d1 hb3 Hnum2 Henum2 HB2 hiz Hcz
            have HPT := hide (HP.out.below HB3.out (Nat.le_refl _))
            go_wp2_with fail
            go_loopg [14, 15] IX (fun g t i wr => ∃ j : Nat, j + g = IX ∧ i = .int .i64 j ∧ t = .int .i64 (sumTo L j : Nat) ∧ w3 = wr)
            case atStart => exact ⟨0, by omega, rfl, rfl, rfl⟩
            case round =>
              obtain ⟨j, hk, rfl, rfl, rfl⟩ := hrel
              have hsm := sumTo_mono L n (j + 1) (by omega)
              have hsm' : sumTo L j + L j ≤ sumTo L n := hsm
              have hle : sumTo L j + L j ≤ 1048576 := Nat.le_trans hsm' Hs.out
              clear hsm hsm'
              by_cases hlt : j < IX
              · obtain ⟨⟨b, off, rfl, c3⟩, _⟩ := HPT.out j (by omega)
                have HS : Hid (sumTo L (j + 1) = sumTo L j + L j) := rfl
                go_wp2_with fail
                go_roundg (IX - (j + 1))
                case measure => omega
                case rel => exact ⟨j + 1, by omega, by go_num, by rw [HS.out]; go_num, rfl⟩
              · obtain rfl : IX = j := by omega
                obtain ⟨g, hg, hcall⟩ := part_both w.heap.size n IX L Z ba bc _ ec w3 c0 c1 Hnum3.out Henum3.out Hbn1.out (fun x hx => by obtain ⟨g, h, _⟩ := Hbn4.out x hx; exact ⟨g, h⟩) hIXn (by omega) Hs.out Hbn2.out Hbn3.out
                have Hg := hide hg
                have Hcall := hide hcall
                clear hg hcall
                go_wp2_with fail
                refine Hcall.out.mono ?_
                rintro e w4 ⟨ga, gc, rfl, hgn, hga, q, rfl⟩
                have Hgot := hide (got_num Hnum3.out hIXn Hg.out hga)
                have Hga := hide hga
                have Hgn := hide hgn
                obtain ⟨⟨b, off, rfl, c3⟩, hpn, _, hpz⟩ := HPT.out IX hIXn
                have Hpn := hide hpn
                have Hpz := hide hpz
                clear Hcall hga hgn hpn hpz
                go_wp2_with fail
                refine (equal_true ga (A IX) (L IX) gc (C IX) (Z IX) _ (Hgot.out.below (below_drewN w3.heap.size _ _) (Nat.le_refl _)) (Hpz.out.below (below_drewN w3.heap.size _ _) (Nat.le_refl _)) Hgn.out (fun h => (Hpn.out h).1)).mono ?_
                rintro e w5 ⟨rfl, rfl⟩
                go_upto_region 32 with fail
                by_cases hL : 0 < L IX
                case' pos =>
                  have e1 := Hga.out hL
                  have e2 := Hg.out hL
                  subst e1
                  subst e2
                  have hl1 : (0 : Int) < (L IX : Int) := by omega
                  have hl2 : (sumTo L IX : Int) < (sumTo L n : Int) := by
                    have hsm := sumTo_mono L n (IX + 1) (by omega)
                    have hsm' : sumTo L IX + L IX ≤ sumTo L n := hsm
                    omega
                  have hl3 : (0 : Int) ≤ (sumTo L IX : Int) := by omega
                  obtain ⟨j5, hj5, _⟩ := info_of Yba.info5
                  have hpp := fun w a => run_neq_ptr_same (P := Yba.prog) w a Yba.underlying33 hj5
                case' neg =>
                  have hl1 : decide ((0 : Int) < (L IX : Int)) = false := decide_eq_false (by omega)
                all_goals
                  go_quiet (fail)
                  go_wp2_with fail
                  refine (equal_true _ ca (sumTo L n) bc cc (catB L Z n) _ (Hnum3.out.below (below_drewN w3.heap.size _ _) (Nat.le_refl _)) (Hcz3.out.below (below_drewN w3.heap.size _ _) (Nat.le_refl _)) (fun h => (Hbn1.out h).1) Hcn.out).mono ?_
                  rintro e w6 ⟨rfl, rfl⟩
                  go_wp2_with fail
                  refine (iequal_true _ ia n ec ic (endsE L n) _ (by omega) (Henum3.out.below (below_drewN w3.heap.size _ _) (Nat.le_refl _)) (Hiz.out.below (below_drewN w3.heap.size _ _) (Nat.le_refl _))).mono ?_
                  rintro e w7 ⟨rfl, q7, rfl⟩
                  go_wp2_with fail
                  go_ret
                  exact ⟨rfl, HB3.out.trans (below_drewN _ _ _)⟩
end Go.Proofs.Ybulkdwfi
