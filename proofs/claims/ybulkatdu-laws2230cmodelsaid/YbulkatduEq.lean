import Derived.Test.YbulkatduSmall
namespace Go.Proofs.Ybulkatdu
open Go.RowKit

/-- The slice value v leads to the names with the numbers xs. -/
def NmRow (w : World) (v : Value) (xs : List Nat) : Prop :=
  xs.length ≤ 8 ∧ ((v = .slice none 0 0 ∧ xs = []) ∨ ∃ b off cap, v = .slice (some ⟨b, off, none⟩) xs.length cap ∧ ∀ j, j < xs.length → w.cell? ⟨b, off + j, none⟩ = some (.string (nm (xs.getD j 0))))

theorem eq_any (va vb : Value) (xs : List Nat) (w : World) (ha : NmRow w va xs) (hb : NmRow w vb xs) :
    Calls Yba.prog 9 #[va, vb] w fun e w' => e = .returned (.bool true) ∧ ∃ n, w' = w.drewN n := by
  obtain ⟨hl, ha⟩ := ha
  obtain ⟨-, hb⟩ := hb
  rcases ha with ⟨rfl, rfl⟩ | ⟨b, off, cap, rfl, hc⟩
  · rcases hb with ⟨rfl, -⟩ | ⟨b', off', cap', rfl, hc'⟩
    · go_enter Yba.func9, Yba.ntmps9
      go_wp2
      refine wp_loop_rounds 1 ?_; rw [rounds_succ]
      go_wp2
      go_ret
      exact ⟨rfl, 0, rfl⟩
    · go_enter Yba.func9, Yba.ntmps9
      go_wp2
      refine wp_loop_rounds 1 ?_; rw [rounds_succ]
      go_wp2
      go_ret
      exact ⟨rfl, 0, rfl⟩
  · rcases hb with ⟨rfl, rfl⟩ | ⟨b', off', cap', rfl, hc'⟩
    · go_enter Yba.func9, Yba.ntmps9
      go_wp2
      refine wp_loop_rounds 1 ?_; rw [rounds_succ]
      go_wp2
      go_ret
      exact ⟨rfl, 0, rfl⟩
    · obtain ⟨n, hn⟩ : ∃ n, n = xs.length := ⟨_, rfl⟩
      rw [← hn] at hc hc' hl ⊢
      have HN : Hid (n = xs.length) := hn
      clear hn
      go_enter Yba.func9, Yba.ntmps9
      go_wp2
      go_loopw [5] (fun i wr => ∃ k : Nat, k ≤ n ∧ i = .int .i64 k ∧ ∃ m, wr = w.drewN m) (fun i _ => n - (intOf i).toNat)
      case atStart => exact ⟨0, Nat.zero_le _, rfl, 0, rfl⟩
      case round =>
        obtain ⟨k, hk, rfl, m, rfl⟩ := hrel
        by_cases hlt : k < n
        · have c1 := hc k hlt
          have c2 := hc' k hlt
          have b0 : (0 : Int) ≤ (k : Int) := by omega
          have b1 : (k : Int) < (n : Int) := by omega
          clear hc hc'
          go_wp2
          go_quiet (fail)
          go_wp2
          go_roundw
          case rel => exact ⟨k + 1, by omega, by go_num, _, rfl⟩
          case measure => simp [intOf]; omega
        · go_wp2
          go_ret
          exact ⟨rfl, m, rfl⟩
end Go.Proofs.Ybulkatdu
