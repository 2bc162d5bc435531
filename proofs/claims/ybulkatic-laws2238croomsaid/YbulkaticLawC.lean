import Derived.Test.YbulkaticMany
import Derived.WalkSmall
namespace Go.Proofs.Ybulkatic
open Go.RowKit

theorem uniq_any (M n : Nat) (S : List (ByteArray × ByteArray)) (w : World) (hS : S.length = n) (hn2 : n ≤ 1024) (hm : IsMem w M S) (hsz : ∀ i, i < n → (S.getD i zp).1.size ≤ maxLen) :
    Calls Yba.prog 18 #[.slice (some ⟨M, 0, none⟩) n n] w fun e w' => e = .returned (.slice (some ⟨M, 0, none⟩) (uni S).length n) ∧ IsMem w' M (uni S ++ List.replicate (n - (uni S).length) zp) ∧ Only M w w' := by
  by_cases h : n ≤ 16
  · exact few_any M n S w hS h hm
  · exact many_any M n S w hS (by omega) hn2 hm hsz

theorem getD_left {U V : List (ByteArray × ByteArray)} {i : Nat} (h : i < U.length) : (U ++ V).getD i zp = U.getD i zp := by
  rw [getD_at (by simp; omega), getD_at h, List.getElem_append_left h]

set_option maxRecDepth 100000 in
theorem model_any (a : Option Addr) (n cap : Nat) (S : List (ByteArray × ByteArray)) (w : World) (h : IsItems w a n S) (hn63 : n ≤ maxLen) (hsz : ∀ i, i < n → (S.getD i zp).1.size ≤ maxLen) :
    Calls Yba.prog 7 #[.slice a n cap] w fun e w' => e = .returned (.bool true) ∧ Below w.heap.size w w' := by
  unfold maxLen at hn63
  by_cases hbig : 1024 < n
  · have hb' : (1024 : Int) < (n : Int) := by omega
    go_enter Yba.func7, Yba.ntmps7
    go_wp2
    go_ret
    exact ⟨rfl, Below.refl _ _⟩
  · have hb' : ¬ (1024 : Int) < (n : Int) := by omega
    have hb'' : decide ((1024 : Int) < (n : Int)) = false := by simp; omega
    have q54 : ∀ (w : World) (a : Option Addr) (n c : Nat), (binOp .neq 54 (.slice a n c) (.slice none 0 0)).run Yba.prog w = .ok (.bool (!a.isNone)) w := fun w a n c => run_neq_slice_nil_any w _ _ a n c 0 0 Yba.underlying54
    go_enter Yba.func7, Yba.ntmps7
    go_wp2_with fail
    refine (build_any a n cap S w h (by omega)).mono ?_
    rintro e w1 ⟨rfl, hm1, hb1, hs1⟩
    have U := uniq_any w.heap.size n S w1 h.1 (by omega) hm1 hsz
    go_wp2_with fail
    refine U.mono ?_
    rintro e w2 ⟨rfl, hm2, ho2⟩
    have hb2 : Below w.heap.size w w2 := hb1.trans (ho2.below (Nat.le_refl _) hb1.size)
    clear U hm1 hb1 hs1 ho2
    obtain ⟨K, hK⟩ : ∃ K, K = (uni S).length := ⟨_, rfl⟩
    rw [← hK]
    have hKn : K ≤ n := by rw [hK]; have := uni_len S n (by rw [h.1]; exact Nat.le_refl _); rw [List.take_of_length_le (by rw [h.1]; exact Nat.le_refl _)] at this; exact this
    have HK : Hid (K = (uni S).length) := hK
    have HM : Hid (IsMem w2 w.heap.size (uni S ++ List.replicate (n - (uni S).length) zp)) := hm2
    have HI : Hid (IsItems w2 a n S) := h.later hb2
    clear hK hm2
    go_wp2
    go_loopw [5, 6] (fun k i wr => ∃ j : Nat, j ≤ n ∧ i = .int .i64 j ∧ k = .int .i64 ((uni (S.take j)).length : Nat) ∧ ∃ m, wr = w2.drewN m) (fun _ i _ => n - (intOf i).toNat)
    case atStart => exact ⟨0, Nat.zero_le _, rfl, rfl, 0, rfl⟩
    case round =>
      obtain ⟨j, hj, rfl, rfl, m, rfl⟩ := hrel
      obtain ⟨kk, hkk⟩ : ∃ kk, kk = (uni (S.take j)).length := ⟨_, rfl⟩
      rw [← hkk]
      have hkn : kk ≤ j := by rw [hkk]; exact uni_len S j (by rw [h.1]; exact hj)
      have Hkk : Hid (kk = (uni (S.take j)).length) := hkk
      clear hkk
      by_cases hlt : j < n
      · obtain ⟨b, off, rfl, hc⟩ := HI.out.2 (by omega)
        have HC : Hid (∀ i, i < n → w2.cell? ⟨b, off + i * 2, none⟩ = some (.string (S.getD i zp).1) ∧ w2.cell? ⟨b, off + i * 2 + 1, none⟩ = some (.string (S.getD i zp).2)) := hc
        obtain ⟨nj, hnj⟩ : ∃ nj, nj = (S.getD j zp).1 := ⟨_, rfl⟩
        obtain ⟨cj, cj2⟩ := hc j hlt
        rw [← hnj] at cj
        obtain ⟨tj, htj⟩ : ∃ tj, tj = (S.getD j zp).2 := ⟨_, rfl⟩
        rw [← htj] at cj2
        have Hnj : Hid (nj = (S.getD j zp).1) := hnj
        have Htj : Hid (tj = (S.getD j zp).2) := htj
        clear hnj htj hc
        have d4 : (0 : Int) ≤ (j : Int) := by omega
        have d5 : (j : Int) < (n : Int) := by omega
        go_wp2
        go_loopw [7, 8] (fun f i ws => ∃ y : Nat, y ≤ j ∧ i = .int .i64 y ∧ f = .bool true ∧ (∀ z, z < y → nmAt S z ≠ nmAt S j) ∧ ∃ m, ws = w2.drewN m) (fun _ i _ => j - (intOf i).toNat)
        case atStart => exact ⟨0, Nat.zero_le _, rfl, rfl, fun z hz => absurd hz (by omega), m, rfl⟩
        case round =>
          clear m
          obtain ⟨y, hy, rfl, rfl, hbef, m, rfl⟩ := hrel
          have HB : Hid (∀ z, z < y → nmAt S z ≠ nmAt S j) := hbef
          clear hbef
          by_cases hyj : y < j
          · obtain ⟨ny, hny⟩ : ∃ ny, ny = (S.getD y zp).1 := ⟨_, rfl⟩
            have cy := (HC.out y (by omega)).1
            rw [← hny] at cy
            have Hny : Hid (ny = (S.getD y zp).1) := hny
            clear hny
            have e1 : (0 : Int) ≤ (y : Int) := by omega
            have e2 : (y : Int) < (n : Int) := by omega
            cases hname : (ny.toList == nj.toList) with
            | false =>
              go_wp2
              go_quiet (fail)
              go_wp2
              go_roundw
              case rel =>
                refine ⟨y + 1, by omega, by go_num, rfl, fun z hz => ?_, _, rfl⟩
                by_cases e : z = y
                · subst e
                  unfold nmAt
                  rw [← Hny.out, ← Hnj.out]
                  simpa using hname
                · exact HB.out z (by omega)
              case measure => simp [intOf]; omega
            | true =>
              have HL : Hid ((uni (S.take (j + 1))).length = kk) := by
                show (uni (S.take (j + 1))).length = kk
                rw [uni_take (by rw [h.1]; exact hlt), ins_len_hit, Hkk.out]
                refine (mem_uni S _ j (by rw [h.1]; exact hj)).1 ⟨y, hyj, ?_⟩
                unfold nmAt
                rw [← Hny.out, ← Hnj.out]
                simpa using hname
              go_wp2
              go_quiet (fail)
              go_wp2
              go_roundw
              case rel => exact ⟨j + 1, by omega, by go_num, by rw [HL.out], _, rfl⟩
              case measure => simp [intOf]; omega
          · obtain rfl : j = y := by omega
            have hfirst : ∀ i, i < j → nmAt S i ≠ nmAt S j := HB.out
            have hu := fun q hq hqn => uni_first S j (by rw [h.1]; exact hlt) hfirst q hq (by rw [h.1]; exact hqn)
            have HU : Hid (kk < K ∧ (uni S).getD kk zp = (nj, lastTo S j n)) := by
              have := hu n hlt (Nat.le_refl _)
              have eS : S.take n = S := List.take_of_length_le (by rw [h.1]; exact Nat.le_refl _)
              rw [eS, ← Hkk.out, ← HK.out, ← Hnj.out] at this
              exact this
            have HLn : Hid ((uni (S.take (j + 1))).length = kk + 1) := by
              show (uni (S.take (j + 1))).length = kk + 1
              rw [uni_take (by rw [h.1]; exact hlt), ins_len_miss, Hkk.out]
              intro hp
              obtain ⟨i, hi, he⟩ := (mem_uni S _ j (by rw [h.1]; exact hj)).2 hp
              exact hfirst i hi he
            clear hu hfirst
            go_wp2
            go_loopw [9, 10] (fun lt i ws => ∃ l : Nat, j < l ∧ l ≤ n ∧ i = .int .i64 l ∧ lt = .string (lastTo S j l) ∧ ∃ m, ws = w2.drewN m) (fun _ i _ => n - (intOf i).toNat)
            case atStart => exact ⟨j + 1, by omega, by omega, by go_num, by rw [lastTo_low S j (j + 1) (Nat.le_refl _), ← Htj.out], m, rfl⟩
            case round =>
              clear m
              obtain ⟨l, hjl, hln, rfl, rfl, m, rfl⟩ := hrel
              by_cases hl : l < n
              · obtain ⟨nl, hnl⟩ : ∃ nl, nl = (S.getD l zp).1 := ⟨_, rfl⟩
                obtain ⟨cl, cl2⟩ := HC.out l hl
                rw [← hnl] at cl
                obtain ⟨tl, htl⟩ : ∃ tl, tl = (S.getD l zp).2 := ⟨_, rfl⟩
                rw [← htl] at cl2
                have e1 : (0 : Int) ≤ (l : Int) := by omega
                have e2 : (l : Int) < (n : Int) := by omega
                cases hname : (nl.toList == nj.toList) with
                | false =>
                  have HT : Hid (lastTo S j (l + 1) = lastTo S j l) := by
                    show lastTo S j (l + 1) = lastTo S j l
                    rw [lastTo, if_neg]
                    rintro ⟨-, he⟩
                    unfold nmAt at he
                    rw [← hnl, ← Hnj.out] at he
                    simp [he] at hname
                  clear hnl htl
                  go_wp2
                  go_quiet (fail)
                  go_wp2
                  go_roundw
                  case rel => exact ⟨l + 1, by omega, by omega, by go_num, by rw [HT.out], _, rfl⟩
                  case measure => simp [intOf]; omega
                | true =>
                  have HT : Hid (lastTo S j (l + 1) = tl) := by
                    show lastTo S j (l + 1) = tl
                    rw [lastTo, if_pos, htl]
                    refine ⟨hjl, ?_⟩
                    unfold nmAt
                    rw [← hnl, ← Hnj.out]
                    simpa using hname
                  clear hnl htl
                  go_wp2
                  go_quiet (fail)
                  go_wp2
                  go_roundw
                  case rel => exact ⟨l + 1, by omega, by omega, by go_num, by rw [HT.out], _, rfl⟩
                  case measure => simp [intOf]; omega
              · obtain rfl : n = l := by omega
                obtain ⟨tx, htx⟩ : ∃ tx, tx = lastTo S j n := ⟨_, rfl⟩
                rw [← htx]
                have hkK : kk < K := HU.out.1
                have hkl : kk < (uni S ++ List.replicate (n - (uni S).length) zp).length := by rw [List.length_append, ← HK.out]; omega
                have hel : (uni S ++ List.replicate (n - (uni S).length) zp).getD kk zp = (nj, tx) := by rw [getD_left (by rw [← HK.out]; exact hkK), HU.out.2, htx]
                have r1 := HM.out.name hkl
                have r2 := HM.out.kind hkl
                have r3 := HM.out.text hkl
                have r4 := HM.out.chil hkl
                rw [hel] at r1 r3
                have e1 : (0 : Int) ≤ (kk : Int) := by omega
                have e2 : (kk : Int) < (K : Int) := by omega
                have r3' : w2.cell? ⟨w.heap.size, kk * 4 + 1 + 1, none⟩ = some (.string tx) := r3
                have r4' : w2.cell? ⟨w.heap.size, kk * 4 + 1 + 2, none⟩ = some (.slice none 0 0) := r4
                clear hel hkl htx
                go_wp2
                go_quiet (fail)
                go_wp2
                go_roundw
                case rel => exact ⟨j + 1, by omega, by go_num, by rw [HLn.out]; go_num, _, rfl⟩
                case measure => simp [intOf]; omega
      · obtain rfl : n = j := by omega
        have hkK : kk = K := by rw [Hkk.out, HK.out, List.take_of_length_le (by rw [h.1]; exact Nat.le_refl _)]
        subst hkK
        go_wp2
        go_ret
        exact ⟨rfl, below_drewN hb2 m⟩
end Go.Proofs.Ybulkatic
