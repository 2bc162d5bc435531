import Derived.Test.YbulkaticBin
import Derived.Test.YbulkaticHolds
namespace Go.Proofs.Ybulkatic
open Go.RowKit

theorem b_drewN {B : Nat} {a w : World} (h : Below B a w) (n : Nat) : Below B a (w.drewN n) := h.trans ⟨rfl, rfl, rfl, Nat.le_refl _, fun _ _ => rfl⟩
theorem RRow.alloc {w : World} {v : Value} {R : List (Int × Int)} (h : RRow w v R) (o : Obj) : RRow (w.alloc o) v R := h.later ((Below.refl _ _).alloc (Nat.le_refl _) _)

/-- 'holds' on a set of ranges that was just made out of ranges only. -/
theorem holds_new (W : World) (C : Nat) (hC : C = W.heap.size) (neg : Bool) (v : Value) (R : List (Int × Int)) (r : Int) (hR : RRow W v R) (hasc : Asc R) (hlen : R.length ≤ 1048576) :
    Calls Yba.prog 13 #[.pointer (some ⟨C, 0, none⟩), .int .i32 r] (W.alloc (.cells #[.bool neg, v, .slice none 0 0, .slice none 0 0, .slice none 0 0, .int .u64 0, .int .u64 0] 32)) fun e w' => e = .returned (.bool (inRs R r != neg)) ∧ ∃ m, w' = (W.alloc (.cells #[.bool neg, v, .slice none 0 0, .slice none 0 0, .slice none 0 0, .int .u64 0, .int .u64 0] 32)).drewN m := by
  subst hC
  have h := holds_any W.heap.size neg v (.slice none 0 0) (.slice none 0 0) (.slice none 0 0) R r none none none false false false (W.alloc (.cells #[.bool neg, v, .slice none 0 0, .slice none 0 0, .slice none 0 0, .int .u64 0, .int .u64 0] 32))
    (by rw [World.cell?_alloc_new]; rfl) (by rw [World.cell?_alloc_new]; rfl) (by rw [World.cell?_alloc_new]; rfl) (by rw [World.cell?_alloc_new]; rfl) (by rw [World.cell?_alloc_new]; rfl) (hR.alloc _) hasc hlen ⟨none, 0, 0, rfl, .inl ⟨rfl, rfl⟩⟩ ⟨none, 0, 0, rfl, .inl ⟨rfl, rfl⟩⟩ ⟨none, 0, 0, rfl, .inl ⟨rfl, rfl⟩⟩
    (fun _ => rfl) (fun _ => rfl) (fun _ => rfl) (fun p h => by cases h) (fun p h => by cases h) (fun p h => by cases h)
  simpa using h

set_option maxRecDepth 100000 in
set_option maxHeartbeats 800000 in
theorem branges_law (a0 : Option Addr) (len0 cap0 : Nat) (z0 : List Int) (a1 : Option Addr) (len1 cap1 : Nat) (z1 : List Int) (a2 : Bool) (a3 : Int) (a4 : Bool) (a5 : Int) (a6 : Int) (w : World) (w0 : IsRow .u16 w a0 len0 cap0 z0) (w1 : IsRow .u8 w a1 len1 cap1 z1) (w5 : (Lit.int .u8 a5).wf = true) (w6 : (Lit.int .u8 a6).wf = true) :
    Calls Yba.prog 5 #[.slice a0 len0 cap0, .slice a1 len1 cap1, .bool a2, .int .i32 a3, .bool a4, .int .u8 a5, .int .u8 a6] w fun e w' => e = .returned (.bool true) ∧ Below w.heap.size w w' := by
  obtain ⟨l0, wf0, -⟩ := w0.shape
  obtain ⟨l1, wf1, -⟩ := w1.shape
  have HB0 : Hid (∀ j, 0 ≤ z0.getD j 0 ∧ z0.getD j 0 ≤ 65535) := fun j => range_u16 wf0 j
  have HB1 : Hid (∀ j, 0 ≤ z1.getD j 0 ∧ z1.getD j 0 ≤ 255) := fun j => range_u8 wf1 j
  have HNB : Hid (∀ k, 0 ≤ nextR z0 z1 k ∧ nextR z0 z1 k ≤ 65791 * (k : Int)) := nextR_bd (z0 := z0) (z1 := z1) HB0.out HB1.out
  clear wf0 wf1
  by_cases h0 : 1024 < len0
  · clear w0 w1 HB0 HB1 HNB
    have t0 : decide ((1024 : Int) < (len0 : Int)) = true := by simp; omega
    go_enter Yba.func5, Yba.ntmps5
    go_wp2
    go_ret
    exact ⟨rfl, Below.refl _ _⟩
  have t0 : decide ((1024 : Int) < (len0 : Int)) = false := by simp; omega
  by_cases h1 : 1024 < len1
  · clear w0 w1 HB0 HB1 HNB
    have t1 : decide ((1024 : Int) < (len1 : Int)) = true := by simp; omega
    go_enter Yba.func5, Yba.ntmps5
    go_wp2
    go_ret
    exact ⟨rfl, Below.refl _ _⟩
  have t1 : decide ((1024 : Int) < (len1 : Int)) = false := by simp; omega
  obtain ⟨n, n0, n1, n2, n3⟩ : ∃ n : Nat, n ≤ len0 ∧ n ≤ len1 ∧ (n = len0 ∨ n = len1) ∧ n ≤ 1024 := by
    by_cases h : len0 ≤ len1
    · exact ⟨len0, by omega, by omega, .inl rfl, by omega⟩
    · exact ⟨len1, by omega, by omega, .inr rfl, by omega⟩
  have W0 : Hid (IsRow .u16 w a0 len0 cap0 z0) := w0
  have W1 : Hid (IsRow .u8 w a1 len1 cap1 z1) := w1
  have N2 : Hid (n = len0 ∨ n = len1) := n2
  have HA : Hid (Asc (rngs z0 z1 n)) := rngs_asc HB0.out HB1.out n
  clear w0 w1 n2
  go_enter Yba.func5, Yba.ntmps5
  go_wp2_with fail
  refine (brng_any a0 len0 cap0 z0 a1 len1 cap1 z1 w W0.out W1.out n n0 n1 N2.out n3).mono ?_
  rintro e w1 ⟨v, rfl, hrow, hb⟩
  have HR : Hid (RRow w1 v (rngs z0 z1 n)) := hrow
  obtain ⟨ao, cap, rfl, hc⟩ := hrow
  rw [rngs_len] at hc HR ⊢
  have HC : Hid (0 < n → ∃ g, ao = some ⟨g, 0, none⟩ ∧ g < w1.heap.size ∧ ∀ i, i < n → w1.cell? ⟨g, i * 2, none⟩ = some (.int .i32 (rlo (rngs z0 z1 n) i)) ∧ w1.cell? ⟨g, i * 2 + 1, none⟩ = some (.int .i32 (rhi (rngs z0 z1 n) i))) := hc
  have HB : Hid (Below w.heap.size w w1) := hb
  have hsz := hb.size
  clear hc hb W0 W1 N2
  obtain ⟨u5, rfl, hu5⟩ : ∃ u : Nat, a5 = (u : Int) ∧ u ≤ 255 := by
    have q : 0 ≤ a5 ∧ a5 ≤ 255 := range_u8 (zs := [a5]) (by simpa using w5) 0
    exact ⟨a5.toNat, by omega, by omega⟩
  obtain ⟨u6, rfl, hu6⟩ : ∃ u : Nat, a6 = (u : Int) ∧ u ≤ 255 := by
    have q : 0 ≤ a6 ∧ a6 ≤ 255 := range_u8 (zs := [a6]) (by simpa using w6) 0
    exact ⟨a6.toNat, by omega, by omega⟩
  cases a4
  case' false =>
    go_wp2_with fail
    refine (holds_new w1 _ rfl a2 _ _ a3 HR.out HA.out (by rw [rngs_len]; omega)).mono ?_
    have HW : Hid (Below w.heap.size w w1) := HB.out
    clear HB
  case' true =>
    by_cases hn : 0 < n
    case' neg =>
      obtain rfl : 0 = n := by omega
      go_wp2_with fail
      refine (holds_new w1 _ rfl a2 _ _ a3 HR.out HA.out (by rw [rngs_len]; omega)).mono ?_
      have HW : Hid (Below w.heap.size w w1) := HB.out
      clear HB
    case' pos =>
      obtain ⟨g, rfl, hg, hc⟩ := HC.out hn
      have hi : u5 % n < n := Nat.mod_lt _ hn
      obtain ⟨c1, c2⟩ := hc _ hi
      obtain ⟨lo, hlo⟩ : ∃ lo, lo = rlo (rngs z0 z1 n) (u5 % n) := ⟨_, rfl⟩
      obtain ⟨hi', hhi⟩ : ∃ hi', hi' = rhi (rngs z0 z1 n) (u5 % n) := ⟨_, rfl⟩
      rw [← hlo] at c1
      rw [← hhi] at c2
      have b1 : 0 ≤ lo ∧ lo ≤ 67500000 ∧ 0 ≤ hi' ∧ hi' ≤ 67500000 := by
        rw [hlo, hhi, rngs_lo hi, rngs_hi hi]
        have q1 := HNB.out (u5 % n)
        have q2 := HB0.out (u5 % n)
        have q3 := HB1.out (u5 % n)
        omega
      obtain ⟨l1, l2, l3, l4⟩ := b1
      clear hlo hhi hc
      have HW : Hid (Below w.heap.size w (w1.alloc (.cells #[.int .i32 lo, .int .i32 hi'] 36))) := HB.out.alloc hsz _
      have HR' : Hid (RRow (w1.alloc (.cells #[.int .i32 lo, .int .i32 hi'] 36)) (.slice (some ⟨g, 0, none⟩) n cap) (rngs z0 z1 n)) := HR.out.alloc _
      have hd : u6 % 4 = 0 ∨ u6 % 4 = 1 ∨ u6 % 4 = 2 ∨ u6 % 4 = 3 := by omega
      clear HB HR HC
      rcases hd with d | d | d | d
      all_goals
        go_wp2_with fail
        refine (holds_new (w1.alloc (.cells #[.int .i32 lo, .int .i32 hi'] 36)) (w1.heap.size + 1) (by simp) a2 _ _ _ HR'.out HA.out (by rw [rngs_len]; omega)).mono ?_
        have HR : Hid (RRow (w1.alloc (.cells #[.int .i32 lo, .int .i32 hi'] 36)) (.slice (some ⟨g, 0, none⟩) n cap) (rngs z0 z1 n)) := HR'.out
        clear HR' c1 c2 d
        revert HR HW
        generalize w1.alloc (.cells #[.int .i32 lo, .int .i32 hi'] 36) = w4
        intro HW HR
  all_goals
    generalize Obj.cells _ 32 = o
    rintro e w2 ⟨rfl, m, rfl⟩
    go_wp2_with fail
    refine (bin_any _ (rngs z0 z1 _) _ _ ((HR.out.alloc o).later (b_drewN (Below.refl _ _) m)) (by rw [rngs_len]; omega)).mono ?_
    rintro e w3 ⟨rfl, hb3⟩
    have HB3 : Hid (Below w.heap.size w w3) := (b_drewN (HW.out.alloc HW.out.size o) m).trans (hb3.mono (HW.out.alloc HW.out.size o).size)
    clear hb3 HW HR
    generalize inRs _ _ = X
    go_wp2
    go_ret
    exact ⟨by cases X <;> cases a2 <;> rfl, HB3.out⟩
end Go.Proofs.Ybulkatic
