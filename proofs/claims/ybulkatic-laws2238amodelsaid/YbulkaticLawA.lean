import Derived.Test.YbulkaticLInv
import Derived.Deep.DeepCutAuto
namespace Go.Proofs.Ybulkatic
open Go.RowKit

theorem len_rows {S : List (Int × Int)} {n : Nat} (h : S.length = n) : (S.map mkR).length = n := by simpa using h

theorem eqp_self (w : World) (p : Addr) (d : Nat) : (Op.equalIn (d + 1) 26 (.pointer (some p)) (.pointer (some p))).run Yba.prog w = .ok true w := by
  simp [Op.equalIn, run_underlying Yba.underlying26, sameAddr]
theorem neqp_self (w : World) (p : Addr) : (binOp .neq 26 (.pointer (some p)) (.pointer (some p))).run Yba.prog w = .ok (.bool false) w := by
  simp only [binOp]
  simp [Op.equal, Op.maxDepth, eqp_self w p 9999]

set_option maxRecDepth 100000 in
theorem amodel_law (a0 a1 a2 : Option Addr) (l0 k0 l1 k1 l2 k2 : Nat) (uo neg : Bool) (S0 S1 : List (Int × Int)) (Z : List Int) (w : World) (h0 : IsPairs w a0 l0 S0) (h1 : IsPairs w a1 l1 S1) (h2 : IsRow .i32 w a2 l2 k2 Z) (m0 : l0 ≤ 9223372036854775807) (m1 : l1 ≤ 9223372036854775807) :
    Calls Yba.prog 3 #[.slice a0 l0 k0, .slice a1 l1 k1, .bool uo, .bool neg, .slice a2 l2 k2] w fun e w' => e = .returned (.bool true) ∧ Below w.heap.size w w' := by
  have L2 := h2.shape.1
  have HW : Hid (IsPairs w a0 l0 S0 ∧ IsPairs w a1 l1 S1 ∧ IsRow .i32 w a2 l2 k2 Z) := ⟨h0, h1, h2⟩
  clear h0 h1 h2
  by_cases g0 : 1024 < l0
  · have q0 : decide ((1024 : Int) < (l0 : Int)) = true := by simp; omega
    go_enter Yba.func3, Yba.ntmps3
    go_wp2
    go_ret
    exact ⟨rfl, Below.refl _ _⟩
  have q0 : decide ((1024 : Int) < (l0 : Int)) = false := by simp; omega
  by_cases g1 : 1024 < l1
  · have q1 : decide ((1024 : Int) < (l1 : Int)) = true := by simp; omega
    go_enter Yba.func3, Yba.ntmps3
    go_wp2
    go_ret
    exact ⟨rfl, Below.refl _ _⟩
  have q1 : decide ((1024 : Int) < (l1 : Int)) = false := by simp; omega
  by_cases g2 : 1024 < l2
  · have q2 : decide ((1024 : Int) < (l2 : Int)) = true := by simp; omega
    go_enter Yba.func3, Yba.ntmps3
    go_wp2
    go_ret
    exact ⟨rfl, Below.refl _ _⟩
  have q2 : decide ((1024 : Int) < (l2 : Int)) = false := by simp; omega
  have HL : Hid ((S0.map mkR).length = l0 ∧ (S1.map mkR).length = l1) := ⟨len_rows HW.out.1.1, len_rows HW.out.2.1.1⟩
  have HG : Hid (Good (S0.map mkR) ∧ Good (S1.map mkR)) := ⟨mk_good _, mk_good _⟩
  obtain ⟨A, hA⟩ : ∃ A, A = S0.map mkR := ⟨_, rfl⟩
  obtain ⟨B, hB⟩ : ∃ B, B = S1.map mkR := ⟨_, rfl⟩
  have HM : Hid (∀ W, Below w.heap.size w W → Calls Yba.prog 9 #[.slice a0 l0 k0] W fun e w' => ∃ v, e = .returned v ∧ v ≠ .slice none 0 0 ∧ w'.ownsRow W.heap.size 36 2 v l0 (rcs A) ∧ Below W.heap.size W w') := fun W hb => by
    rw [hA]; exact amk_any a0 l0 k0 S0 W (HW.out.1.later hb) (by omega)
  have HM' : Hid (∀ W, Below w.heap.size w W → Calls Yba.prog 9 #[.slice a1 l1 k1] W fun e w' => ∃ v, e = .returned v ∧ v ≠ .slice none 0 0 ∧ w'.ownsRow W.heap.size 36 2 v l1 (rcs B) ∧ Below W.heap.size W w') := fun W hb => by
    rw [hB]; exact amk_any a1 l1 k1 S1 W (HW.out.2.1.later hb) (by omega)
  rw [← hA, ← hB] at HL HG
  clear hA hB
  go_enter Yba.func3, Yba.ntmps3
  go_wp2_with fail
  refine (HM.out w (Below.refl _ _)).mono ?_
  rintro e w1 ⟨v, rfl, hv, hown, hb1⟩
  obtain ⟨ga, ca, rfl, hga, -, -, ra⟩ := rowAt_of hown hv
  have HA : Hid (RowAt w1 ga A ∧ w.heap.size ≤ ga) := ⟨ra, hga⟩
  clear hown hv ra hga
  go_wp2_with fail
  refine (HM'.out w1 hb1).mono ?_
  rintro e w2 ⟨v, rfl, hv, hown, hb2⟩
  obtain ⟨gb, cb, rfl, hgb, -, -, rb⟩ := rowAt_of hown hv
  have HB : Hid (RowAt w2 gb B ∧ w1.heap.size ≤ gb) := ⟨rb, hgb⟩
  clear hown hv rb hgb
  have hb12 := hb1.trans (hb2.mono hb1.size)
  go_wp2_with fail
  refine (HM.out w2 hb12).mono ?_
  rintro e w3 ⟨v, rfl, hv, hown, hb3⟩
  obtain ⟨gc, cc, rfl, hgc, hcc, -, rc⟩ := rowAt_of hown hv
  have HLI : Hid (LInv w (w3.alloc (.cells #[.bool neg, .slice (some ⟨gc, 0, none⟩) l0 cc, .slice none 0 0, .slice none 0 0, .slice none 0 0, .int .u64 0, .int .u64 0] 32)) w3.heap.size ga gb gc cc A B neg (.slice none 0 0)) := by
    have k2 : Kp [] w1 w2 := Kp.of_below hb2
    have k3 : Kp [] w2 w3 := Kp.of_below hb3
    have b3 := hb12.trans (hb3.mono hb12.size)
    have k4 := (Kp.refl [] w3).alloc (.cells #[.bool neg, .slice (some ⟨gc, 0, none⟩) l0 cc, .slice none 0 0, .slice none 0 0, .slice none 0 0, .int .u64 0, .int .u64 0] 32)
    have e1 := HA.out.1.1
    have e2 := HB.out.1.1
    have e3 := HB.out.2
    refine ⟨b3.alloc b3.size _, (((HA.out.1.kept k2 (by simp)).kept k3 (by simp))).kept k4 (by simp), (HB.out.1.kept k3 (by simp)).kept k4 (by simp), rc.kept k4 (by simp), ?_, HA.out.2, by omega, by omega, rc.1⟩
    rw [HL.out.1]
    exact cls_new w3 neg _
  have HCC : Hid (l0 ≤ cc) := hcc
  clear hown hv rc hgc hcc HA HB hb1 hb2 hb3 hb12
  go_upto_if 42 with fail
  obtain ⟨C, hC⟩ : ∃ C, C = w3.heap.size := ⟨_, rfl⟩
  obtain ⟨W0, hW0⟩ : ∃ W0, W0 = w3.alloc (.cells #[.bool neg, .slice (some ⟨gc, 0, none⟩) l0 cc, .slice none 0 0, .slice none 0 0, .slice none 0 0, .int .u64 0, .int .u64 0] 32) := ⟨_, rfl⟩
  rw [← hW0, ← hC] at HLI
  rw [← hW0, ← hC]
  clear hW0 hC
  go_cut [13] (fun z ws => ∃ ov, z = .pointer (some ⟨C, 0, none⟩) ∧ LInv w ws C ga gb gc cc A B neg ov ∧ OthC ws [C, gc] ov (fun r => uo && inRs B r))
  case first =>
    cases uo with
    | false =>
      go_wp2
      go_meet
      case rel => exact ⟨_, rfl, HLI.out, .inl ⟨rfl, fun r => rfl⟩⟩
    | true =>
      go_wp2_with fail
      refine (HM'.out W0 HLI.out.bel).mono ?_
      rintro e w4 ⟨v, rfl, hv, hown, hb4⟩
      obtain ⟨go, cd, rfl, hgo, hcd, -, rd⟩ := rowAt_of hown hv
      have hgC : C < go := by have := HLI.out.cls.lt; omega
      have HLI4 : Hid (LInv w w4 C ga gb gc cc A B neg (.slice none 0 0)) := HLI.out.kept (Kp.of_below (S := []) hb4) (by simp)
      have HRD : Hid (RowAt w4 go B ∧ l1 ≤ cd) := ⟨rd, hcd⟩
      clear hown hv hb4 rd hcd hgo HLI
      go_wp2_with fail
      have hfin := finish_any w4.heap.size go cd false (.slice none 0 0) B (w4.alloc (.cells #[.bool false, .slice (some ⟨go, 0, none⟩) l1 cd, .slice none 0 0, .slice none 0 0, .slice none 0 0, .int .u64 0, .int .u64 0] 32)) (by rw [HL.out.2]; exact cls_new w4 false _) (HRD.out.1.kept ((Kp.refl [] w4).alloc _) (by simp)) HG.out.2 (by rw [HL.out.2]; omega) (by rw [HL.out.2]; exact HRD.out.2) (by have := HRD.out.1.1; omega) (fun _ => false) (.inl ⟨rfl, fun _ => rfl⟩)
      refine hfin.mono ?_
      rintro e w5 ⟨rfl, x, y, J, f1, f2, f3, f4, f5, f6, f7⟩
      obtain ⟨O, hO⟩ : ∃ O, O = w4.heap.size := ⟨_, rfl⟩
      rw [← hO] at f1 f7 ⊢
      have hCO : C < O := by rw [hO]; exact HLI4.out.cls.lt
      have HLI5 : Hid (LInv w w5 C ga gb gc cc A B neg (.slice none 0 0)) :=
        HLI4.out.kept ((((Kp.refl [O, go] w4).alloc _).trans f7)) (fun b hb => by simp at hb; omega)
      have HF5 : Hid (Cls w5 O false (.slice (some ⟨go, 0, none⟩) J.length cd) (.slice none 0 0) x y ∧ RowAt w5 go J ∧ Asc J ∧ J.length ≤ 1024 ∧ (∀ r, inRs J r = inRs B r) ∧ BitsOK x y (inRs J)) :=
        ⟨f1, f2, f3, f4, f5, ⟨f6.1, f6.2.1, fun r r0 r1 => by rw [f6.2.2 r r0 r1]; simp⟩⟩
      clear hO f1 f2 f3 f4 f5 f6 f7 HLI4 HRD hfin
      have c4 := (HLI5.out.cls.kept ((Kp.refl [] w5).alloc (.cells #[.pointer (some ⟨O, 0, none⟩)] 26)) (by simp)).c4
      have z4 := (HLI5.out.cls.kept ((Kp.refl [] w5).alloc (.cells #[.pointer (some ⟨O, 0, none⟩)] 26)) (by simp)).fz 4
      go_wp2
      go_meet
      case rel => exact ⟨_, rfl, (HLI5.out.kept ((Kp.refl [] w5).alloc _) (by simp)).setOv _, oth_new HF5.out hCO hgC HLI5.out.le.2.2.2⟩
  case rest =>
    clear HLI HM HM'
    obtain ⟨ov, rfl, hI, hO⟩ := hcut
    obtain ⟨f, hf⟩ : ∃ f : Int → Bool, f = fun r => (inRs A r || (uo && inRs B r)) != neg := ⟨_, rfl⟩
    have HF : Hid (∀ r, f r = ((inRs A r || (uo && inRs B r)) != neg)) := fun r => by rw [hf]
    clear hf
    have HFI : Hid (Calls Yba.prog 10 #[.pointer (some ⟨C, 0, none⟩)] wc fun e w' => e = .returned (.pointer (some ⟨C, 0, none⟩)) ∧ LFin w w' C (.slice (some ⟨ga, 0, none⟩) l0 ca) (.slice (some ⟨gb, 0, none⟩) l1 cb) A B f) := by
      have hfin := finish_any C gc cc neg ov A wc hI.cls hI.rc HG.out.1 (by rw [HL.out.1]; omega) (by rw [HL.out.1]; exact HCC.out) (by have := hI.le; omega) _ hO
      refine Calls.mono hfin ?_
      rintro e w' ⟨rfl, x, y, J, f1, f2, f3, f4, f5, f6, f7⟩
      refine ⟨rfl, ?_⟩
      rw [← HL.out.1, ← HL.out.2]
      exact hI.fin hO f1 f2 f3 f4 f5 f6 f7 HF.out
    clear hI hO
    go_wp2_with fail
    refine HFI.out.mono ?_
    rintro e w1' ⟨rfl, hfin⟩
    have HFN : Hid (LFin w w1' C (.slice (some ⟨ga, 0, none⟩) l0 ca) (.slice (some ⟨gb, 0, none⟩) l1 cb) A B f) := hfin
    have HCH : Hid (∀ W p, LFin w W C (.slice (some ⟨ga, 0, none⟩) l0 ca) (.slice (some ⟨gb, 0, none⟩) l1 cb) A B f → -2147483648 ≤ p → p ≤ 2147483647 →
        Calls Yba.prog 11 #[.pointer (some ⟨C, 0, none⟩), .slice (some ⟨ga, 0, none⟩) l0 ca, .slice (some ⟨gb, 0, none⟩) l1 cb, .bool uo, .bool neg, .int .i32 p] W fun e w' => e = .returned (.bool true) ∧ LFin w w' C (.slice (some ⟨ga, 0, none⟩) l0 ca) (.slice (some ⟨gb, 0, none⟩) l1 cb) A B f) := fun W p h p0 p1 => by
      refine (check_any C _ _ A B uo neg p f W h.2.1 h.2.2.1 h.2.2.2 (by rw [HL.out.1]; omega) (by rw [HL.out.2]; omega) p0 p1 (HF.out p)).mono ?_
      rintro e w' ⟨he, hb⟩
      exact ⟨he, h.later hb⟩
    have HCK : Hid (∀ W p, LFin w W C (.slice (some ⟨ga, 0, none⟩) l0 ca) (.slice (some ⟨gb, 0, none⟩) l1 cb) A B f → -2147483648 ≤ p → p ≤ 2147483647 →
        Calls Yba.prog 11 #[.pointer (some ⟨C, 0, none⟩), .slice (some ⟨ga, 0, none⟩) l0 ca, .slice (some ⟨gb, 0, none⟩) l1 cb, .bool uo, .bool neg, .int .i32 p] W fun e w' => e = .returned (.bool true) ∧ LFin w w' C (.slice (some ⟨ga, 0, none⟩) l0 ca) (.slice (some ⟨gb, 0, none⟩) l1 cb) A B f ∧ Below W.heap.size W w') := fun W p h p0 p1 => by
      refine (check_any C _ _ A B uo neg p f W h.2.1 h.2.2.1 h.2.2.2 (by rw [HL.out.1]; omega) (by rw [HL.out.2]; omega) p0 p1 (HF.out p)).mono ?_
      rintro e w' ⟨he, hb⟩
      exact ⟨he, h.later hb, hb⟩
    clear hfin HFI
    have q26 : ∀ (w' : World), (binOp .neq 26 (.pointer (some ⟨C, 0, none⟩)) (.pointer (some ⟨C, 0, none⟩))).run Yba.prog w' = .ok (.bool false) w' := fun w' => neqp_self w' _
    go_wp2
    go_loopw [15] (fun i wr => ∃ r : Nat, r ≤ 256 ∧ i = .int .i32 r ∧ Hid (LFin w wr C (.slice (some ⟨ga, 0, none⟩) l0 ca) (.slice (some ⟨gb, 0, none⟩) l1 cb) A B f)) (fun i _ => 256 - (intOf i).toNat)
    case atStart => exact ⟨0, by omega, rfl, HFN⟩
    case round =>
      clear HFN
      obtain ⟨r, hr, rfl, hfn⟩ := hrel
      by_cases hr8 : r < 256
      · go_wp2_with fail
        refine (HCH.out wr r hfn.out (by omega) (by omega)).mono ?_
        rintro e w4 ⟨rfl, hfn4⟩
        have HFN4 : Hid (LFin w w4 C (.slice (some ⟨ga, 0, none⟩) l0 ca) (.slice (some ⟨gb, 0, none⟩) l1 cb) A B f) := hfn4
        clear hfn4 hfn
        go_wp2
        go_roundw
        case rel => exact ⟨r + 1, by omega, by go_num, HFN4⟩
        case measure => simp [intOf]; omega
      · have hr9 : decide ((r : Int) < 256) = false := by simp; omega
        go_wp2
        go_loopw [71] (fun i wr => ∃ k : Nat, k ≤ l2 ∧ i = .int .i64 k ∧ Hid (LFin w wr C (.slice (some ⟨ga, 0, none⟩) l0 ca) (.slice (some ⟨gb, 0, none⟩) l1 cb) A B f)) (fun i _ => l2 - (intOf i).toNat)
        case atStart => exact ⟨0, by omega, rfl, hfn⟩
        case round =>
          clear hfn
          obtain ⟨k, hk, rfl, hfn⟩ := hrel
          by_cases hlt : k < l2
          · obtain ⟨-, wf, hsh⟩ := HW.out.2.2.shape
            obtain ⟨b, off, rfl, hbl, hc⟩ := hsh (by omega)
            have ck := hc k hlt
            rw [← hfn.out.1.cell (by exact hbl)] at ck
            have bz : -2147483648 ≤ Z.getD k 0 ∧ Z.getD k 0 ≤ 2147483647 := range_i32 wf k
            obtain ⟨z, hz⟩ : ∃ z, z = Z.getD k 0 := ⟨_, rfl⟩
            rw [← hz] at ck bz
            obtain ⟨z0, z1⟩ := bz
            clear wf hsh hc hz
            go_wp2_with fail
            refine (HCH.out wr z hfn.out z0 z1).mono ?_
            rintro e w4 ⟨rfl, hfn4⟩
            have HFN4 : Hid (LFin w w4 C (.slice (some ⟨ga, 0, none⟩) l0 ca) (.slice (some ⟨gb, 0, none⟩) l1 cb) A B f) := hfn4
            clear hfn4 hfn ck
            go_wp2
            go_roundw
            case rel => exact ⟨k + 1, by omega, by go_num, HFN4⟩
            case measure => simp [intOf]; omega
          · obtain rfl : k = l2 := by omega
            go_wp2
            go_loopw [86] (fun i wr => ∃ k : Nat, k ≤ l0 ∧ i = .int .i64 k ∧ Hid (LFin w wr C (.slice (some ⟨ga, 0, none⟩) l0 ca) (.slice (some ⟨gb, 0, none⟩) l1 cb) A B f)) (fun i _ => l0 - (intOf i).toNat)
            case atStart => exact ⟨0, by omega, rfl, hfn⟩
            case round =>
              clear hfn
              obtain ⟨j, hj, rfl, hfn⟩ := hrel
              by_cases hltj : j < l0
              · obtain ⟨ao, cap', he, hrow⟩ := hfn.out.2.2.1
                rw [HL.out.1] at hrow
                obtain ⟨g', he2, hg', hcc⟩ := hrow (by omega)
                obtain ⟨c1, c2⟩ := hcc j hltj
                have eg : g' = ga := by
                  have h1 : some (⟨ga, 0, none⟩ : Addr) = some ⟨g', 0, none⟩ := by
                    injection he with e1 _ _
                    exact e1.trans he2
                  injection h1 with h2
                  injection h2 with h3
                  exact h3.symm
                rw [eg] at c1 c2
                clear eg
                have bd := HG.out.1.at (i := j) (by rw [HL.out.1]; exact hltj)
                obtain ⟨lo, hlo⟩ : ∃ lo, lo = rlo A j := ⟨_, rfl⟩
                obtain ⟨hi, hhi⟩ : ∃ hi, hi = rhi A j := ⟨_, rfl⟩
                rw [← hlo] at c1 bd
                rw [← hhi] at c2 bd
                obtain ⟨b0, b1, b2⟩ := bd
                clear hlo hhi he he2 hcc hrow hg'
                go_upto_region 25 with fail
                obtain ⟨rb, hrb⟩ : ∃ rb, rb = wr.heap.size := ⟨_, rfl⟩
                obtain ⟨v0, hv0⟩ : ∃ v0, v0 = wr.alloc (.cells #[.int .i32 lo, .int .i32 hi] 36) := ⟨_, rfl⟩
                have HV0 : Hid (LFin w v0 C (.slice (some ⟨ga, 0, none⟩) l0 ca) (.slice (some ⟨gb, 0, none⟩) l1 cb) A B f) := by
                  rw [hv0]; exact hfn.out.later ((Below.refl _ wr).alloc (Nat.le_refl _) _)
                have HRB : Hid (∀ W, Below v0.heap.size v0 W → W.cell? ⟨rb, 0, none⟩ = some (.int .i32 lo) ∧ W.cell? ⟨rb, 1, none⟩ = some (.int .i32 hi)) := fun W hW => by
                  have hlt : rb < v0.heap.size := by rw [hv0, hrb]; simp
                  rw [hW.cell (by exact hlt), hW.cell (by exact hlt), hv0, hrb, World.cell?_alloc_new, World.cell?_alloc_new]
                  exact ⟨rfl, rfl⟩
                rw [← hv0, ← hrb]
                clear hv0 hrb c1 c2 hfn
                obtain ⟨c1, c2⟩ := HRB.out v0 (Below.refl _ _)
                go_wp2_with fail
                refine (HCK.out v0 (lo) HV0.out (by omega) (by omega)).mono ?_
                rintro e v1 ⟨rfl, hfn, hbv⟩
                have HV1 : Hid (LFin w v1 C (.slice (some ⟨ga, 0, none⟩) l0 ca) (.slice (some ⟨gb, 0, none⟩) l1 cb) A B f) := hfn
                have hb1 : Below v0.heap.size v0 v1 := hbv
                clear hfn hbv c1 c2
                obtain ⟨c1, c2⟩ := HRB.out v1 hb1
                go_wp2_with fail
                refine (HCK.out v1 (lo - 1) HV1.out (by omega) (by omega)).mono ?_
                rintro e v2 ⟨rfl, hfn, hbv⟩
                have HV2 : Hid (LFin w v2 C (.slice (some ⟨ga, 0, none⟩) l0 ca) (.slice (some ⟨gb, 0, none⟩) l1 cb) A B f) := hfn
                have hb2 : Below v0.heap.size v0 v2 := hb1.trans (hbv.mono hb1.size)
                clear hfn hbv c1 c2
                obtain ⟨c1, c2⟩ := HRB.out v2 hb2
                go_wp2_with fail
                refine (HCK.out v2 (hi) HV2.out (by omega) (by omega)).mono ?_
                rintro e v3 ⟨rfl, hfn, hbv⟩
                have HV3 : Hid (LFin w v3 C (.slice (some ⟨ga, 0, none⟩) l0 ca) (.slice (some ⟨gb, 0, none⟩) l1 cb) A B f) := hfn
                have hb3 : Below v0.heap.size v0 v3 := hb2.trans (hbv.mono hb2.size)
                clear hfn hbv c1 c2
                obtain ⟨c1, c2⟩ := HRB.out v3 hb3
                go_wp2_with fail
                refine (HCK.out v3 (hi + 1) HV3.out (by omega) (by omega)).mono ?_
                rintro e v4 ⟨rfl, hfn, hbv⟩
                have HV4 : Hid (LFin w v4 C (.slice (some ⟨ga, 0, none⟩) l0 ca) (.slice (some ⟨gb, 0, none⟩) l1 cb) A B f) := hfn
                have hb4 : Below v0.heap.size v0 v4 := hb3.trans (hbv.mono hb3.size)
                clear hfn hbv c1 c2
                clear hb1 hb2 hb3 hb4 HRB HV0 HV1 HV2 HV3
                go_wp2
                go_roundw
                case rel => exact ⟨j + 1, by omega, by go_num, HV4⟩
                case measure => simp [intOf]; omega
              · obtain rfl : j = l0 := by omega
                go_wp2
                go_ret
                exact ⟨rfl, hfn.out.1⟩
end Go.Proofs.Ybulkatic
