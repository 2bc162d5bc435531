import Derived.Test.YbulkaticRanges
namespace Go.Proofs.Ybulkatic
open Go.RowKit

theorem ain_any (v : Value) (R : List (Int × Int)) (r : Int) (w : World) (hv : RRow w v R) (hn : R.length ≤ 1048576) :
    Calls Yba.prog 21 #[v, .int .i32 r] w fun e w' => e = .returned (.bool (inRs R r)) ∧ Below w.heap.size w w' := by
  obtain ⟨ao, cap, rfl, hc⟩ := hv
  obtain ⟨n, hN⟩ : ∃ n, n = R.length := ⟨_, rfl⟩
  rw [← hN] at hc hn ⊢
  have HN : Hid (n = R.length) := hN
  have HC : Hid (0 < n → ∃ g, ao = some ⟨g, 0, none⟩ ∧ g < w.heap.size ∧ ∀ i, i < n → w.cell? ⟨g, i * 2, none⟩ = some (.int .i32 (rlo R i)) ∧ w.cell? ⟨g, i * 2 + 1, none⟩ = some (.int .i32 (rhi R i))) := hc
  clear hN hc
  go_enter Yba.func21, Yba.ntmps21
  go_wp2
  go_loopw [9] (fun i wr => ∃ k : Nat, k ≤ n ∧ i = .int .i64 k ∧ inRs (R.take k) r = false ∧ Below w.heap.size w wr) (fun i _ => n - (intOf i).toNat)
  case atStart => exact ⟨0, Nat.zero_le _, rfl, by simp [inRs], Below.refl _ _⟩
  case round =>
    obtain ⟨k, hk, rfl, hin, hb⟩ := hrel
    have HI : Hid (inRs (R.take k) r = false) := hin
    clear hin
    by_cases hlt : k < n
    · obtain ⟨g, rfl, hg, hc⟩ := HC.out (by omega)
      obtain ⟨c1, c2⟩ := hc k hlt
      rw [← hb.cell (by exact hg)] at c1 c2
      obtain ⟨lo, hlo⟩ : ∃ lo, lo = rlo R k := ⟨_, rfl⟩
      obtain ⟨hi, hhi⟩ : ∃ hi, hi = rhi R k := ⟨_, rfl⟩
      rw [← hlo] at c1
      rw [← hhi] at c2
      have hst := inRs_take_succ (R := R) (k := k) (by rw [← HN.out]; exact hlt) r
      rw [← hlo, ← hhi, HI.out, Bool.false_or] at hst
      have hsz := hb.size
      clear hlo hhi hc
      by_cases h1 : lo ≤ r
      · by_cases h2 : r ≤ hi
        · have HT : Hid (inRs R r = true) := by
            rw [inRs_iff]
            have e : inRs (R.take (k + 1)) r = true := by rw [hst]; simp [h1, h2]
            obtain ⟨i, hi', a, b⟩ := (inRs_iff _ _).1 e
            rw [List.length_take] at hi'
            have g1 : (R.take (k + 1)).getD i (0, 0) = R.getD i (0, 0) := by
              simp only [List.getD_eq_getElem?_getD, List.getElem?_take]
              rw [if_pos (by omega)]
            exact ⟨i, by omega, by unfold rlo at a ⊢; rw [← g1]; exact a, by unfold rhi at b ⊢; rw [← g1]; exact b⟩
          clear hst
          go_wp2
          go_ret
          exact ⟨by rw [HT.out]; rfl, hb.alloc hsz _⟩
        · have HF : Hid (inRs (R.take (k + 1)) r = false) := by show _ = _; rw [hst]; simp [h2]
          clear hst
          go_wp2
          go_roundw
          case rel => exact ⟨k + 1, by omega, by go_num, HF.out, hb.alloc hsz _⟩
          case measure => simp [intOf]; omega
      · have HF : Hid (inRs (R.take (k + 1)) r = false) := by show _ = _; rw [hst]; simp [h1]
        have h1d : decide (lo ≤ r) = false := by simpa using h1
        clear hst
        go_wp2
        go_roundw
        case rel => exact ⟨k + 1, by omega, by go_num, HF.out, hb.alloc hsz _⟩
        case measure => simp [intOf]; omega
    · have e : k = n := by omega
      subst e
      have HF : Hid (inRs R r = false) := by
        have := HI.out
        rw [List.take_of_length_le (by rw [← HN.out]; exact Nat.le_refl _)] at this; exact this
      go_wp2
      go_ret
      exact ⟨by rw [HF.out]; rfl, hb⟩
end Go.Proofs.Ybulkatic
