import Derived.Test.YbulkaticOthC
import Derived.Test.YbulkaticAin
namespace Go.Proofs.Ybulkatic
open Go.RowKit

theorem containsC {w : World} {C g cap : Nat} {neg : Bool} {ov : Value} {x y : Int} {J : List (Int × Int)} {T : List Nat} {ob : Int → Bool} (hC : Cls w C neg (.slice (some ⟨g, 0, none⟩) J.length cap) ov x y) (hr : RowAt w g J) (ha : Asc J) (hl : J.length ≤ 1048576) (ho : OthC w T ov ob) (hb : BitsOK x y (fun r => (inRs J r || ob r) != neg)) (r : Int) (r0 : -2147483648 ≤ r) (r1 : r ≤ 2147483647) :
    Calls Yba.prog 22 #[.pointer (some ⟨C, 0, none⟩), .int .i32 r] w fun e w' => e = .returned (.bool ((inRs J r || ob r) != neg)) ∧ ∃ m, w' = w.drewN m := by
  by_cases h : 0 ≤ r ∧ r < 128
  · have hbr : bit x y r = ((inRs J r || ob r) != neg) := hb.2.2 r h.1 h.2
    rw [← hbr]
    clear hbr
    obtain ⟨⟨x0, x1⟩, ⟨y0, y1⟩, -⟩ := hb
    obtain ⟨h0, h1⟩ := h
    obtain ⟨z, hz⟩ : ∃ z, z = if r < 64 then x else y := ⟨_, rfl⟩
    have HZ : Hid (z = if r < 64 then x else y) := hz
    have c : w.cell? ⟨C, 5 + (r / 64).toNat, none⟩ = some (.int .u64 z) := by
      rw [hz]
      by_cases h2 : r < 64
      · rw [if_pos h2, show (r / 64).toNat = 0 by omega]; exact hC.c5
      · rw [if_neg h2, show (r / 64).toNat = 1 by omega]; exact hC.c6
    have hz0 : 0 ≤ z := by rw [hz]; split <;> omega
    have hz1 : z ≤ 18446744073709551615 := by rw [hz]; split <;> omega
    clear hz hC hr ha hl ho
    go_enter Yba.func22, Yba.ntmps22
    go_wp2
    go_ret
    exact ⟨by rw [bit, ← HZ.out]; rfl, 0, rfl⟩
  · have HH : Hid (Calls Yba.prog 13 #[.pointer (some ⟨C, 0, none⟩), .int .i32 r] w fun e w' => e = .returned (.bool ((inRs J r || ob r) != neg)) ∧ ∃ m, w' = w.drewN m) := holdsC hC hr ha hl ho r r0 r1
    clear hC hr ha hl ho hb
    generalize ((inRs J r || ob r) != neg) = X at HH ⊢
    have hr : r < 0 ∨ 128 ≤ r := by omega
    clear h
    rcases hr with hr | hr
    all_goals
      go_enter Yba.func22, Yba.ntmps22
      go_wp2_with fail
      refine (Hid.out HH).mono ?_
      rintro e w' ⟨rfl, m, rfl⟩
      go_wp2
      go_ret
      exact ⟨rfl, m, rfl⟩

/-- A finished set: it answers f. -/
def Fin (w : World) (C : Nat) (f : Int → Bool) : Prop :=
  ∃ g cap neg ov x y J T ob, Cls w C neg (.slice (some ⟨g, 0, none⟩) (List.length J) cap) ov x y ∧ RowAt w g J ∧ Asc J ∧ J.length ≤ 1048576 ∧ OthC w T ov ob ∧ BitsOK x y (fun r => (inRs J r || ob r) != neg) ∧ ∀ r, f r = ((inRs J r || ob r) != neg)
theorem Fin.later {w w' : World} {C : Nat} {f : Int → Bool} (h : Fin w C f) (hb : Below w.heap.size w w') : Fin w' C f := by
  obtain ⟨g, cap, neg, ov, x, y, J, T, ob, h1, h2, h3, h4, h5, h6, h7⟩ := h
  have k : Kp [] w w' := Kp.of_below hb
  exact ⟨g, cap, neg, ov, x, y, J, T, ob, h1.kept k (by simp), h2.kept k (by simp), h3, h4, h5.kept k (by simp), h6, h7⟩
theorem Fin.con {w : World} {C : Nat} {f : Int → Bool} (h : Fin w C f) (r : Int) (r0 : -2147483648 ≤ r) (r1 : r ≤ 2147483647) :
    Calls Yba.prog 22 #[.pointer (some ⟨C, 0, none⟩), .int .i32 r] w fun e w' => e = .returned (.bool (f r)) ∧ Below w.heap.size w w' := by
  obtain ⟨g, cap, neg, ov, x, y, J, T, ob, h1, h2, h3, h4, h5, h6, h7⟩ := h
  refine (containsC h1 h2 h3 h4 h5 h6 r r0 r1).mono ?_
  rintro e w' ⟨he, m, rfl⟩
  exact ⟨by rw [he, h7], ((Kp.refl [] w).drewN m).below (Nat.le_refl _) (by simp)⟩

set_option maxRecDepth 100000 in
theorem check_any (C : Nat) (va vb : Value) (A B : List (Int × Int)) (uo neg : Bool) (p : Int) (f : Int → Bool) (w : World) (hF : Fin w C f) (hA : RRow w va A) (hB : RRow w vb B) (lA : A.length ≤ 1048576) (lB : B.length ≤ 1048576)
    (p0 : -2147483648 ≤ p) (p1 : p ≤ 2147483647) (hf : f p = ((inRs A p || (uo && inRs B p)) != neg)) :
    Calls Yba.prog 11 #[.pointer (some ⟨C, 0, none⟩), va, vb, .bool uo, .bool neg, .int .i32 p] w fun e w' => e = .returned (.bool true) ∧ Below w.heap.size w w' := by
  have HF : Hid (Fin w C f) := hF
  have HA : Hid (Calls Yba.prog 21 #[va, .int .i32 p] w fun e w' => e = .returned (.bool (inRs A p)) ∧ Below w.heap.size w w') := ain_any va A p w hA lA
  have HB : Hid (∀ w2, Below w.heap.size w w2 → Calls Yba.prog 21 #[vb, .int .i32 p] w2 fun e w' => e = .returned (.bool (inRs B p)) ∧ Below w2.heap.size w2 w') := fun w2 h2 => ain_any vb B p w2 (hB.later h2) lB
  have HC : Hid (∀ w2, Below w.heap.size w w2 → Calls Yba.prog 22 #[.pointer (some ⟨C, 0, none⟩), .int .i32 p] w2 fun e w' => e = .returned (.bool ((inRs A p || (uo && inRs B p)) != neg)) ∧ Below w2.heap.size w2 w') := fun w2 h2 => by
    rw [← hf]; exact (hF.later h2).con p p0 p1
  obtain ⟨av, n, c, rfl, -⟩ : ∃ ao n c, va = .slice ao n c ∧ True := by obtain ⟨ao, cap, e, -⟩ := hA; exact ⟨ao, _, cap, e, trivial⟩
  obtain ⟨bv, n', c', rfl, -⟩ : ∃ ao n c, vb = .slice ao n c ∧ True := by obtain ⟨ao, cap, e, -⟩ := hB; exact ⟨ao, _, cap, e, trivial⟩
  clear hF hA hB hf HF
  generalize inRs A p = X at HA HC
  generalize inRs B p = Y at HB HC
  cases X with
  | true =>
    go_enter Yba.func11, Yba.ntmps11
    go_wp2_with fail
    refine HA.out.mono ?_
    rintro e w1 ⟨rfl, hb1⟩
    go_wp2_with fail
    refine (HC.out w1 hb1).mono ?_
    rintro e w2 ⟨rfl, hb2⟩
    cases neg
    all_goals
      go_wp2
      go_ret
      exact ⟨rfl, hb1.trans (hb2.mono hb1.size)⟩
  | false =>
    cases uo with
    | false =>
      go_enter Yba.func11, Yba.ntmps11
      go_wp2_with fail
      refine HA.out.mono ?_
      rintro e w1 ⟨rfl, hb1⟩
      go_wp2_with fail
      refine (HC.out w1 hb1).mono ?_
      rintro e w2 ⟨rfl, hb2⟩
      cases neg
      all_goals
        go_wp2
        go_ret
        exact ⟨rfl, hb1.trans (hb2.mono hb1.size)⟩
    | true =>
      go_enter Yba.func11, Yba.ntmps11
      go_wp2_with fail
      refine HA.out.mono ?_
      rintro e w1 ⟨rfl, hb1⟩
      go_wp2_with fail
      refine (HB.out w1 hb1).mono ?_
      rintro e w2 ⟨rfl, hb2⟩
      have hb3 := hb1.trans (hb2.mono hb1.size)
      go_wp2_with fail
      refine (HC.out w2 hb3).mono ?_
      rintro e w3 ⟨rfl, hb4⟩
      cases neg <;> cases Y
      all_goals
        go_wp2
        go_ret
        exact ⟨rfl, hb3.trans (hb4.mono hb3.size)⟩
end Go.Proofs.Ybulkatic
