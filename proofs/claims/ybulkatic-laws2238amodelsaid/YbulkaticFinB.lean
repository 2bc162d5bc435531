import Derived.Test.YbulkaticOthC
import Derived.Lib.JoinLaws
import Derived.BigRegion
namespace Go.Proofs.Ybulkatic
open Go.RowKit

set_option maxRecDepth 100000 in
theorem finish_any (C g cap : Nat) (neg : Bool) (ov : Value) (R : List (Int × Int)) (w : World) (hC : Cls w C neg (.slice (some ⟨g, 0, none⟩) R.length cap) ov 0 0) (hR : RowAt w g R) (hG : Good R) (hl : R.length ≤ 1024) (hcap : R.length ≤ cap) (hCg : C ≠ g) (ob : Int → Bool) (hO : OthC w [C, g] ov ob) :
    Calls Yba.prog 10 #[.pointer (some ⟨C, 0, none⟩)] w fun e w' => e = .returned (.pointer (some ⟨C, 0, none⟩)) ∧ ∃ x y J, Cls w' C neg (.slice (some ⟨g, 0, none⟩) J.length cap) ov x y ∧ RowAt w' g J ∧ Asc J ∧ J.length ≤ 1024 ∧ (∀ r, inRs J r = inRs R r) ∧ BitsOK x y (fun r => (inRs J r || ob r) != neg) ∧ Kp [C, g] w w' := by
  have HS := sort_any g cap R w hR hG hl
  obtain ⟨n, hN⟩ : ∃ n, n = R.length := ⟨_, rfl⟩
  rw [← hN] at HS hC hl hcap
  have HSH : Hid (Calls Yba.prog 19 #[.slice (some ⟨g, 0, none⟩) n cap, .func (.func 20) #[] #[]] w fun e w' => e = .returned (.tuple #[]) ∧ ∃ R', R'.length = n ∧ Good R' ∧ (∀ r, inRs R' r = inRs R r) ∧ LoS R' ∧ RowAt w' g R' ∧ Kp [g] w w') := HS
  have HN : Hid (n = R.length) := hN
  have HC : Hid (Cls w C neg (.slice (some ⟨g, 0, none⟩) n cap) ov 0 0) := hC
  have c1 := hC.c1
  have HO : Hid (OthC w [C, g] ov ob) := hO
  clear HS hN hC hO hR hG
  go_enter Yba.func10, Yba.ntmps10
  go_wp2_with fail
  refine HSH.out.mono ?_
  rintro e w1 ⟨rfl, R', hR'l, hR'g, hR'i, hR's, hR'r, hk1⟩
  have HR' : Hid (R'.length = n ∧ Good R' ∧ (∀ r, inRs R' r = inRs R r) ∧ LoS R') := ⟨hR'l, hR'g, hR'i, hR's⟩
  have HC1 : Hid (Cls w1 C neg (.slice (some ⟨g, 0, none⟩) n cap) ov 0 0) := HC.out.kept hk1 (by simp; exact hCg)
  have HJ0 : Hid (JI w1 g R' 0 w1) := ⟨R', rfl, hR'r, rfl, fun i _ _ => ⟨rfl, rfl⟩, Kp.refl _ _⟩
  have HK1 : Hid (Kp [g] w w1) := hk1
  clear c1 hk1 hR'l hR'g hR'i hR's hR'r HSH
  have c1 := HC1.out.c1
  go_wp2
  go_loopw [3, 23] (fun jv i wr => ∃ k : Nat, k ≤ n ∧ i = .int .i64 k ∧ jv = .slice (some ⟨g, 0, none⟩) (joinN R' k).length cap ∧ Hid (JI w1 g R' k wr)) (fun _ i _ => n - (intOf i).toNat)
  case atStart => exact ⟨0, Nat.zero_le _, rfl, rfl, HJ0⟩
  case round =>
    clear HJ0 c1
    obtain ⟨k, hk, rfl, rfl, hJ⟩ := hrel
    obtain ⟨m, hm⟩ : ∃ m, m = (joinN R' k).length := ⟨_, rfl⟩
    have HM : Hid (m = (joinN R' k).length) := hm
    have hmk : m ≤ k := by rw [hm]; exact (joinN_ok HR'.out.2.1 HR'.out.2.2.2 k (by rw [HR'.out.1]; exact hk)).2.2.2.1
    rw [← hm]
    clear hm
    by_cases hlt : k < n
    · obtain ⟨E, hE1, hE2, hE3, hE4, hE5⟩ := hJ.out
      rw [← HM.out] at hE3
      have HE : Hid (E.length = n ∧ E.take m = joinN R' k ∧ (∀ i, k ≤ i → i < n → rlo E i = rlo R' i ∧ rhi E i = rhi R' i)) := ⟨by rw [hE1, HR'.out.1], hE3, fun i h1 h2 => hE4 i h1 (by rw [HR'.out.1]; exact h2)⟩
      have HEr : Hid (RowAt wr g E) := hE2
      have HEk : Hid (Kp [g] w1 wr) := hE5
      obtain ⟨⟨a1, -⟩, a2, -⟩ := hE2.2 k (by rw [HE.out.1]; exact hlt)
      have bd := HR'.out.2.1.at (i := k) (by rw [HR'.out.1]; exact hlt)
      obtain ⟨e1, e2⟩ := HE.out.2.2 k (Nat.le_refl _) hlt
      rw [← e1, ← e2] at bd
      obtain ⟨lo, hlo⟩ : ∃ lo, lo = rlo E k := ⟨_, rfl⟩
      obtain ⟨hi, hhi⟩ : ∃ hi, hi = rhi E k := ⟨_, rfl⟩
      rw [← hlo] at a1 bd e1
      rw [← hhi] at a2 bd e2
      have HLH : Hid (lo = rlo R' k ∧ hi = rhi R' k) := ⟨e1, e2⟩
      obtain ⟨bd0, bd1, bd2⟩ := bd
      clear hE1 hE2 hE3 hE4 hE5 hlo hhi e1 e2
      go_upto_region 7 with fail
      obtain ⟨W1, hW1⟩ : ∃ W1, W1 = wr.alloc (.cells #[.int .i32 lo, .int .i32 hi] 36) := ⟨_, rfl⟩
      obtain ⟨rb, hrb⟩ : ∃ rb, rb = wr.heap.size := ⟨_, rfl⟩
      have d0 : W1.cell? ⟨rb, 0, none⟩ = some (.int .i32 lo) := by rw [hW1, hrb, World.cell?_alloc_new]; rfl
      have d1 : W1.cell? ⟨rb, 1, none⟩ = some (.int .i32 hi) := by rw [hW1, hrb, World.cell?_alloc_new]; rfl
      have HEr1 : Hid (RowAt W1 g E) := by rw [hW1]; exact HEr.out.kept ((Kp.refl [] _).alloc _) (by simp)
      have HEk1 : Hid (Kp [g] w1 W1) := by rw [hW1]; exact HEk.out.alloc _
      rw [← hW1, ← hrb]
      clear hW1 hrb a1 a2 HEr HEk
      by_cases hm0 : 0 < m
      · obtain ⟨⟨-, -⟩, a3, a4⟩ := HEr1.out.2 (m - 1) (by rw [HE.out.1]; omega)
        obtain ⟨lh, hlh⟩ : ∃ lh, lh = rhi E (m - 1) := ⟨_, rfl⟩
        rw [← hlh] at a3
        obtain ⟨bl0, bl⟩ : 0 ≤ lh ∧ lh ≤ 1114111 := by rw [hlh]; exact ji_last HR'.out.2.1 HR'.out.2.2.2 (by rw [HR'.out.1]; exact hk) HM.out hm0 HE.out.2.1
        have HLL : Hid (lh = rhi E (m - 1)) := hlh
        clear hlh
        by_cases hj : lo ≤ lh + 1
        · go_wp2
          go_quiet (fail)
          obtain ⟨W2, hW2⟩ : ∃ W2, W2 = W1.drewN nq := ⟨_, rfl⟩
          have d1' : W2.cell? ⟨rb, 1, none⟩ = some (.int .i32 hi) := by rw [hW2]; exact d1
          have a3' : W2.cell? ⟨g, (m - 1) * 2 + 1, none⟩ = some (.int .i32 lh) := by rw [hW2]; exact a3
          have a4' : W2.frozen? ⟨g, (m - 1) * 2 + 1, none⟩ = false := by rw [hW2]; exact a4
          have HEr2 : Hid (RowAt W2 g E) := by rw [hW2]; exact HEr1.out
          have HEk2 : Hid (Kp [g] w1 W2) := by rw [hW2]; exact HEk1.out.drewN _
          rw [← hW2]
          clear hW2 HEr1 HEk1 d0 d1 a3 a4
          go_wp2
          go_big_region
          have HJ : Hid (m = (joinN R' (k + 1)).length ∧ JI w1 g R' (k + 1) (W2.setCell ⟨g, (m - 1) * 2 + 1, none⟩ (.int .i32 (max lh hi))).drew) :=
            ji_join HM.out hm0 hmk (by rw [HR'.out.1]; exact hlt) (by rw [HE.out.1, HR'.out.1]) HE.out.2.1 (by rw [HR'.out.1]; exact HE.out.2.2) HLH.out HLL.out hj HEr2.out HEk2.out
          clear d1' a3' a4' HEr2 HEk2
          go_wp2
          go_roundw
          case rel => exact ⟨k + 1, by omega, by go_num, by rw [← HJ.out.1], HJ.out.2⟩
          case measure => simp [intOf]; omega
        · have hjd : decide (lo ≤ lh + 1) = false := by simpa using hj
          go_wp2
          go_quiet (fail)
          obtain ⟨W2, hW2⟩ : ∃ W2, W2 = W1.drewN nq := ⟨_, rfl⟩
          have d0' : W2.cell? ⟨rb, 0, none⟩ = some (.int .i32 lo) := by rw [hW2]; exact d0
          have d1' : W2.cell? ⟨rb, 1, none⟩ = some (.int .i32 hi) := by rw [hW2]; exact d1
          have HEr2 : Hid (RowAt W2 g E) := by rw [hW2]; exact HEr1.out
          have HEk2 : Hid (Kp [g] w1 W2) := by rw [hW2]; exact HEk1.out.drewN _
          rw [← hW2]
          clear hW2 HEr1 HEk1 d0 d1 a3 a4
          obtain ⟨⟨x1, x2⟩, x3, x4⟩ := (HEr2.out.kept ((Kp.refl [] W2).alloc (.cells #[.int .i32 lo, .int .i32 hi] 36)) (by simp)).2 m (by rw [HE.out.1]; omega)
          generalize rlo E m = z0 at x1
          generalize rhi E m = z1 at x3
          have HJ : Hid (m + 1 = (joinN R' (k + 1)).length ∧ JI w1 g R' (k + 1) (((W2.alloc (.cells #[.int .i32 lo, .int .i32 hi] 36)).setCell ⟨g, m * 2, none⟩ (.int .i32 lo)).setCell ⟨g, m * 2 + 1, none⟩ (.int .i32 hi))) :=
            ji_app HM.out hmk (by rw [HR'.out.1]; exact hlt) (by rw [HE.out.1, HR'.out.1]) HE.out.2.1 (by rw [HR'.out.1]; exact HE.out.2.2) HLH.out (fun h => by have e := HLL.out; have h2 := h.2; rw [← e] at h2; omega) (HEr2.out.kept ((Kp.refl [] W2).alloc _) (by simp)) (HEk2.out.alloc _)
          clear HEr2 HEk2
          go_wp2
          go_roundw
          case rel => exact ⟨k + 1, by omega, by go_num, by rw [← HJ.out.1], HJ.out.2⟩
          case measure => simp [intOf]; omega
      · have hmd : decide ((0 : Int) < (m : Int)) = false := by simp; omega
        go_wp2
        go_quiet (fail)
        obtain ⟨W2, hW2⟩ : ∃ W2, W2 = W1.drewN nq := ⟨_, rfl⟩
        have d0' : W2.cell? ⟨rb, 0, none⟩ = some (.int .i32 lo) := by rw [hW2]; exact d0
        have d1' : W2.cell? ⟨rb, 1, none⟩ = some (.int .i32 hi) := by rw [hW2]; exact d1
        have HEr2 : Hid (RowAt W2 g E) := by rw [hW2]; exact HEr1.out
        have HEk2 : Hid (Kp [g] w1 W2) := by rw [hW2]; exact HEk1.out.drewN _
        rw [← hW2]
        clear hW2 HEr1 HEk1 d0 d1
        obtain ⟨⟨x1, x2⟩, x3, x4⟩ := (HEr2.out.kept ((Kp.refl [] W2).alloc (.cells #[.int .i32 lo, .int .i32 hi] 36)) (by simp)).2 m (by rw [HE.out.1]; omega)
        generalize rlo E m = z0 at x1
        generalize rhi E m = z1 at x3
        have HJ : Hid (m + 1 = (joinN R' (k + 1)).length ∧ JI w1 g R' (k + 1) (((W2.alloc (.cells #[.int .i32 lo, .int .i32 hi] 36)).setCell ⟨g, m * 2, none⟩ (.int .i32 lo)).setCell ⟨g, m * 2 + 1, none⟩ (.int .i32 hi))) :=
          ji_app HM.out hmk (by rw [HR'.out.1]; exact hlt) (by rw [HE.out.1, HR'.out.1]) HE.out.2.1 (by rw [HR'.out.1]; exact HE.out.2.2) HLH.out (fun h => hm0 h.1) (HEr2.out.kept ((Kp.refl [] W2).alloc _) (by simp)) (HEk2.out.alloc _)
        clear HEr2 HEk2
        go_wp2
        go_roundw
        case rel => exact ⟨k + 1, by omega, by go_num, by rw [← HJ.out.1], HJ.out.2⟩
        case measure => simp [intOf]; omega
    · obtain rfl : k = n := by omega
      have HC2 : Hid (Cls wr C neg (.slice (some ⟨g, 0, none⟩) k cap) ov 0 0) := by
        obtain ⟨E, -, -, -, -, h5⟩ := hJ.out
        exact HC1.out.kept h5 (by simp; exact hCg)
      have q1 := HC2.out.c1
      have q2 := HC2.out.fz 1
      have HK2 : Hid (Kp [g] w1 wr) := by
        obtain ⟨E, -, -, -, -, h5⟩ := hJ.out
        exact h5
      obtain ⟨J, hJJ⟩ : ∃ J, J = joinN R' k := ⟨_, rfl⟩
      have HJ : Hid (RowAt wr g J ∧ Asc J ∧ J.length = m ∧ ∀ r, inRs J r = inRs R r) := by
        obtain ⟨E, h1, h2, h3, -, -⟩ := hJ.out
        rw [← hJJ] at h3
        have ok := joinN_ok HR'.out.2.1 HR'.out.2.2.2 k (by rw [HR'.out.1]; exact Nat.le_refl _)
        rw [← hJJ] at ok
        refine ⟨h2.take h3 rfl, ok.1.asc, by rw [HM.out, hJJ], fun r => ?_⟩
        rw [ok.2.1 r, List.take_of_length_le (by rw [HR'.out.1]; exact Nat.le_refl _)]
        exact HR'.out.2.2.1 r
      clear hJ hJJ
      go_upto_region 12 with fail
      obtain ⟨W3, hW3⟩ : ∃ W3, W3 = wr.setCell ⟨C, 1, none⟩ (.slice (some ⟨g, 0, none⟩) m cap) := ⟨_, rfl⟩
      have HC3 : Hid (Cls W3 C neg (.slice (some ⟨g, 0, none⟩) m cap) ov 0 0) := by
        rw [hW3]
        have h := HC2.out
        have e : ∀ j, j ≠ 1 → (wr.setCell ⟨C, 1, none⟩ (.slice (some ⟨g, 0, none⟩) m cap)).cell? ⟨C, j, none⟩ = wr.cell? ⟨C, j, none⟩ := fun j hj => by rw [World.cell?_setCell_other (h := by intro e; injection e with e1 e2; omega)]
        exact ⟨by simpa using h.lt, by rw [e 0 (by omega)]; exact h.c0, World.cell?_setCell_same _ _ _ (u := _) h.c1, by rw [e 2 (by omega)]; exact h.c2, by rw [e 3 (by omega)]; exact h.c3, by rw [e 4 (by omega)]; exact h.c4, by rw [e 5 (by omega)]; exact h.c5, by rw [e 6 (by omega)]; exact h.c6, fun j => by rw [World.frozen?_setCell]; exact h.fz j⟩
      have HK3 : Hid (Kp [C, g] w W3) := by
        rw [hW3]
        exact ((HK1.out.trans HK2.out).mono (T := [C, g]) (by simp)).setCell (by simp) _
      have HJ3 : Hid (RowAt W3 g J) := by
        rw [hW3]
        exact HJ.out.1.kept ((Kp.refl [C] wr).setCell (by simp) _) (by simp; omega)
      rw [← hW3]
      clear hW3 q1 q2 HC2 HK1 HK2 HC1
      go_wp2
      go_loopw [66] (fun i ws => ∃ (r : Nat) (x y : Int), r ≤ 128 ∧ i = .int .i32 r ∧ Hid (Cls ws C neg (.slice (some ⟨g, 0, none⟩) m cap) ov x y) ∧ Hid (RowAt ws g J) ∧ Hid (BitsK x y (fun r => (inRs J r || ob r) != neg) r) ∧ Hid (Kp [C, g] w ws)) (fun i _ => 128 - (intOf i).toNat)
      case atStart => exact ⟨0, 0, 0, by omega, rfl, HC3, HJ3, bitsK_zero _, HK3⟩
      case round =>
        clear HC3 HJ3 HK3
        obtain ⟨r, x, y, hr, rfl, hC, hrow, hbits, hkp⟩ := hrel
        by_cases hr8 : r < 128
        · have HH : Hid (Calls Yba.prog 13 #[.pointer (some ⟨C, 0, none⟩), .int .i32 (r : Int)] wr fun e w' => e = .returned (.bool ((inRs J r || ob r) != neg)) ∧ ∃ m, w' = wr.drewN m) :=
            holdsC (cap := cap) (by rw [HJ.out.2.2.1]; exact hC.out) hrow.out HJ.out.2.1 (by have := HJ.out.2.2.1; omega) (HO.out.kept hkp.out fun b hb => hb) r (by omega) (by omega)
          obtain ⟨F, hF⟩ : ∃ F, F = ((inRs J r || ob r) != neg) := ⟨_, rfl⟩
          rw [← hF] at HH
          have HF : Hid (F = ((inRs J r || ob r) != neg)) := hF
          clear hF
          go_wp2_with fail
          refine HH.out.mono ?_
          rintro e w4 ⟨rfl, q, hw4⟩
          have HC4 : Hid (Cls w4 C neg (.slice (some ⟨g, 0, none⟩) m cap) ov x y) := by rw [hw4]; exact hC.out.kept ((Kp.refl [] wr).drewN q) (by simp)
          have HJ4 : Hid (RowAt w4 g J) := by rw [hw4]; exact hrow.out
          have HK4 : Hid (Kp [C, g] w w4) := by rw [hw4]; exact hkp.out.drewN q
          clear hw4 HH hC hrow hkp
          cases F with
          | false =>
            go_wp2
            go_roundw
            case rel => exact ⟨r + 1, x, y, by omega, by go_num, HC4, HJ4, bitsK_skip hbits.out HF.out.symm, HK4⟩
            case measure => simp [intOf]; omega
          | true =>
            have fz := HC4.out.fz (5 + r / 64)
            obtain ⟨z, hz⟩ : ∃ z, z = if r < 64 then x else y := ⟨_, rfl⟩
            have cz : w4.cell? ⟨C, 5 + r / 64, none⟩ = some (.int .u64 z) := by
              rw [hz]
              by_cases h64 : r < 64
              · rw [if_pos h64, show r / 64 = 0 by omega]; exact HC4.out.c5
              · rw [if_neg h64, show r / 64 = 1 by omega]; exact HC4.out.c6
            have z0 : 0 ≤ z := by rw [hz]; split; exact hbits.out.1.1; exact hbits.out.2.1.1
            have z1 : z ≤ 18446744073709551615 := by rw [hz]; split; exact hbits.out.1.2; exact hbits.out.2.1.2
            have HZ : Hid (z = if r < 64 then x else y) := hz
            clear hz
            go_wp2
            go_big_region
            obtain ⟨x', y', s1, s2, s3, s4⟩ := set_bit HC4.out hbits.out hr8 HF.out.symm HZ.out HJ4.out HK4.out hCg
            generalize (w4.setCell ⟨C, 5 + r / 64, none⟩ (.int .u64 (bits .or .u64 z (IntKind.u64.wrap ((2 : Int) ^ (r % 64)))))).drew = w5 at s1 s3 s4 ⊢
            have S1 : Hid (Cls w5 C neg (.slice (some ⟨g, 0, none⟩) m cap) ov x' y') := s1
            have S2 : Hid (BitsK x' y' (fun r => (inRs J r || ob r) != neg) ((r + 1 : Nat) : Int)) := s2
            have S3 : Hid (RowAt w5 g J) := s3
            have S4 : Hid (Kp [C, g] w w5) := s4
            clear s1 s2 s3 s4 fz cz
            go_wp2
            go_roundw
            case rel => exact ⟨r + 1, x', y', by omega, by go_num, S1, S3, S2, S4⟩
            case measure => simp [intOf]; omega
        · obtain rfl : r = 128 := by omega
          go_wp2
          go_ret
          refine ⟨rfl, x, y, J, ?_, hrow.out, HJ.out.2.1, by have := HJ.out.2.2.1; omega, HJ.out.2.2.2, BitsK.ok hbits.out, hkp.out⟩
          rw [HJ.out.2.2.1]; exact hC.out
end Go.Proofs.Ybulkatic
