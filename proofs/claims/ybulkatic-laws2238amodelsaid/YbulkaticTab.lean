import Derived.Test.YbulkaticHolds
namespace Go.Proofs.Ybulkatic
open Go.RowKit

/-- 'zzs2238bhi'. -/
def hiOf (a b : Int) : Int := if 65535 < a + b then 65535 else a + b

theorem bhi_any (a b : Int) (w : World) (a0 : 0 ≤ a) (a1 : a ≤ 65535) (b0 : 0 ≤ b) (b1 : b ≤ 65535) :
    Calls Yba.prog 15 #[.int .u16 a, .int .u16 b] w fun e w' => e = .returned (.int .u16 (hiOf a b)) ∧ w' = w := by
  by_cases h : 65535 < a + b
  · have e : hiOf a b = 65535 := if_pos h
    rw [e]
    clear e
    go_enter Yba.func15, Yba.ntmps15
    go_wp2
    go_ret
    exact ⟨rfl, rfl⟩
  · have e : hiOf a b = a + b := if_neg h
    rw [e]
    clear e
    go_enter Yba.func15, Yba.ntmps15
    go_wp2
    go_ret
    exact ⟨rfl, rfl⟩

theorem btable_any (a b : Int) (w : World) :
    Calls Yba.prog 16 #[.int .u16 a, .int .u16 b] w fun e w' => e = .returned (.pointer (some ⟨w.heap.size + 1, 0, none⟩)) ∧ w' = (w.alloc (.cells #[.int .u16 a, .int .u16 b, .int .u16 1] 73)).alloc (.cells #[.slice (some ⟨w.heap.size, 0, none⟩) 1 1, .slice none 0 0, .int .i64 0] 77) := by
  go_enter Yba.func16, Yba.ntmps16
  go_wp2
  go_ret
  exact ⟨rfl, rfl⟩

theorem is16_any (g : Nat) (a b r : Int) (w : World) (c0 : w.cell? ⟨g, 0, none⟩ = some (.int .u16 a)) (c1 : w.cell? ⟨g, 1, none⟩ = some (.int .u16 b)) (c2 : w.cell? ⟨g, 2, none⟩ = some (.int .u16 1)) :
    Calls Yba.prog 26 #[.slice (some ⟨g, 0, none⟩) 1 1, .int .u16 r] w fun e w' => e = .returned (.bool (decide (a ≤ r) && decide (r ≤ b))) ∧ ∃ m, w' = w.drewN m := by
  go_enter Yba.func26, Yba.ntmps26
  go_wp2
  go_loopw [20] (fun i ws => ∃ k : Nat, k ≤ 1 ∧ i = .int .i64 k ∧ (k = 1 → b < r) ∧ ∃ m, ws = w.drewN m) (fun i _ => 1 - (intOf i).toNat)
  case atStart => exact ⟨0, by omega, rfl, fun h => by omega, 0, rfl⟩
  case round =>
    obtain ⟨k, hk, rfl, hb, m, rfl⟩ := hrel
    by_cases h0 : k = 0
    · subst h0
      clear hb hk
      by_cases h1 : r < a
      · go_wp2
        go_ret
        exact ⟨by rw [show decide (a ≤ r) = false by simp; omega]; rfl, m, rfl⟩
      · by_cases h2 : r ≤ b
        · go_wp2
          go_quiet (fail)
          go_wp2
          go_ret
          exact ⟨by rw [show decide (a ≤ r) = true by simp; omega, show decide (r ≤ b) = true by simp; omega]; rfl, m + nq, World.drewN_drewN _ _ _⟩
        · go_wp2
          go_roundw
          case rel => exact ⟨1, by omega, by go_num, fun _ => by omega, m, rfl⟩
          case measure => simp [intOf]
    · obtain rfl : k = 1 := by omega
      have h2 := hb rfl
      clear hb hk h0
      go_wp2
      go_ret
      exact ⟨by simp; omega, m, rfl⟩

theorem is_any (g t : Nat) (a b r : Int) (w : World) (c0 : w.cell? ⟨g, 0, none⟩ = some (.int .u16 a)) (c1 : w.cell? ⟨g, 1, none⟩ = some (.int .u16 b)) (c2 : w.cell? ⟨g, 2, none⟩ = some (.int .u16 1))
    (t0 : w.cell? ⟨t, 0, none⟩ = some (.slice (some ⟨g, 0, none⟩) 1 1)) (t1 : w.cell? ⟨t, 1, none⟩ = some (.slice none 0 0)) (a0 : 0 ≤ a) (b0 : 0 ≤ b) (b1 : b ≤ 65535) (r0 : -2147483648 ≤ r) (r1 : r ≤ 2147483647) :
    Calls Yba.prog 23 #[.pointer (some ⟨t, 0, none⟩), .int .i32 r] w fun e w' => e = .returned (.bool (decide (a ≤ r) && decide (r ≤ b))) ∧ ∃ m, w' = w.drewN m := by
  by_cases hr : 0 ≤ r
  · by_cases hb : r ≤ b
    · go_enter Yba.func23, Yba.ntmps23
      go_wp2_with fail
      refine (is16_any g a b r w c0 c1 c2).mono ?_
      obtain ⟨X, hX⟩ : ∃ X, X = (decide (a ≤ r) && decide (r ≤ b)) := ⟨_, rfl⟩
      rw [← hX]
      have HX : Hid (X = (decide (a ≤ r) && decide (r ≤ b))) := hX
      clear hX
      rintro e w' ⟨rfl, m, rfl⟩
      go_wp2
      go_ret
      exact ⟨by rw [← HX.out]; rfl, m, rfl⟩
    · go_enter Yba.func23, Yba.ntmps23
      go_wp2_with fail
      go_ret
      exact ⟨by simp [hb], 0, rfl⟩
  · go_enter Yba.func23, Yba.ntmps23
    go_wp2_with fail
    go_ret
    exact ⟨by simp [show ¬ a ≤ r by omega], 0, rfl⟩

/-- What 'contains' reads of the two words. -/
def bit (x y r : Int) : Bool := bits BinOp.and IntKind.u64 ((if r < 64 then x else y) / 2 ^ (r % 64).toNat) 1 != 0
theorem contains_any (C : Nat) (v : Value) (R : List (Int × Int)) (r x y : Int) (w : World)
    (c0 : w.cell? ⟨C, 0, none⟩ = some (.bool false)) (c1 : w.cell? ⟨C, 1, none⟩ = some v) (c2 : w.cell? ⟨C, 2, none⟩ = some (.slice none 0 0)) (c3 : w.cell? ⟨C, 3, none⟩ = some (.slice none 0 0)) (c4 : w.cell? ⟨C, 4, none⟩ = some (.slice none 0 0)) (c5 : w.cell? ⟨C, 5, none⟩ = some (.int .u64 x)) (c6 : w.cell? ⟨C, 6, none⟩ = some (.int .u64 y))
    (hR : RRow w v R) (hasc : Asc R) (hlen : R.length ≤ 1048576) (r0 : -2147483648 ≤ r) (r1 : r ≤ 2147483647) (x0 : 0 ≤ x) (x1 : x ≤ 18446744073709551615) (y0 : 0 ≤ y) (y1 : y ≤ 18446744073709551615) :
    Calls Yba.prog 22 #[.pointer (some ⟨C, 0, none⟩), .int .i32 r] w fun e w' => e = .returned (.bool (if 0 ≤ r ∧ r < 128 then bit x y r else inRs R r)) ∧ ∃ m, w' = w.drewN m := by
  by_cases h : 0 ≤ r ∧ r < 128
  · rw [if_pos h]
    obtain ⟨h0, h1⟩ := h
    obtain ⟨z, hz⟩ : ∃ z, z = if r < 64 then x else y := ⟨_, rfl⟩
    have HZ : Hid (z = if r < 64 then x else y) := hz
    have c : w.cell? ⟨C, 5 + (r / 64).toNat, none⟩ = some (.int .u64 z) := by
      rw [hz]
      by_cases h2 : r < 64
      · rw [if_pos h2, show (r / 64).toNat = 0 by omega]; exact c5
      · rw [if_neg h2, show (r / 64).toNat = 1 by omega]; exact c6
    have hz0 : 0 ≤ z := by rw [hz]; split <;> omega
    have hz1 : z ≤ 18446744073709551615 := by rw [hz]; split <;> omega
    clear hz c0 c1 c2 c3 c4 c5 c6 hR hasc hlen
    go_enter Yba.func22, Yba.ntmps22
    go_wp2
    go_ret
    exact ⟨by rw [bit, ← HZ.out]; rfl, 0, rfl⟩
  · rw [if_neg h]
    have hh := holds_any C false v (.slice none 0 0) (.slice none 0 0) (.slice none 0 0) R r none none none false false false w c0 c1 c2 c3 c4 hR hasc hlen ⟨none, 0, 0, rfl, .inl ⟨rfl, rfl⟩⟩ ⟨none, 0, 0, rfl, .inl ⟨rfl, rfl⟩⟩ ⟨none, 0, 0, rfl, .inl ⟨rfl, rfl⟩⟩
      (fun _ => rfl) (fun _ => rfl) (fun _ => rfl) (fun p h => by cases h) (fun p h => by cases h) (fun p h => by cases h)
    rw [show ((inRs R r || false || false || false) != false) = inRs R r by simp] at hh
    have HH : Hid (Calls Yba.prog 13 #[.pointer (some ⟨C, 0, none⟩), .int .i32 r] w fun e w' => e = .returned (.bool (inRs R r)) ∧ ∃ m, w' = w.drewN m) := hh
    clear hh hR hasc
    have hr : r < 0 ∨ 128 ≤ r := by omega
    clear h
    rcases hr with hr | hr
    all_goals
      go_enter Yba.func22, Yba.ntmps22
      go_wp2_with fail
      refine (Hid.out HH).mono ?_
      obtain ⟨X, hX⟩ : ∃ X, X = inRs R r := ⟨_, rfl⟩
      rw [← hX]
      have HX : Hid (X = inRs R r) := hX
      clear hX
      rintro e w' ⟨rfl, m, rfl⟩
      go_wp2
      go_ret
      exact ⟨by rw [← HX.out]; rfl, m, rfl⟩
end Go.Proofs.Ybulkatic
