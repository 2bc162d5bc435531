import Derived.Test.YbulkaticFinA
import Derived.Test.YbulkaticBits
namespace Go.Proofs.Ybulkatic
open Go.RowKit

theorem RowAt.take {w : World} {g m : Nat} {E J : List (Int × Int)} (h : RowAt w g E) (hT : E.take m = J) (hm : m = J.length) : RowAt w g J := by
  have hl : m ≤ E.length := by
    have := congrArg List.length hT
    rw [List.length_take] at this
    omega
  refine ⟨h.1, fun i hi => ?_⟩
  obtain ⟨e1, e2⟩ := take_at hT (i := i) (by omega)
  rw [e1, e2]
  exact h.2 i (by omega)

/-- A list of no other set, or of one finished set; none of its blocks is in T. -/
def OthC (w : World) (T : List Nat) (ov : Value) (ob : Int → Bool) : Prop :=
  (ov = .slice none 0 0 ∧ ∀ r, ob r = false) ∨ ∃ s O go cap x y J, ov = .slice (some ⟨s, 0, none⟩) 1 1 ∧ (s < w.heap.size ∧ w.cell? ⟨s, 0, none⟩ = some (.pointer (some ⟨O, 0, none⟩))) ∧ (s ∉ T ∧ O ∉ T ∧ go ∉ T) ∧
    Cls w O false (.slice (some ⟨go, 0, none⟩) J.length cap) (.slice none 0 0) x y ∧ RowAt w go J ∧ Asc J ∧ J.length ≤ 1048576 ∧ BitsOK x y (inRs J) ∧ ∀ r, ob r = inRs J r

theorem OthC.kept {S T : List Nat} {w w' : World} {ov : Value} {ob : Int → Bool} (h : OthC w T ov ob) (k : Kp S w w') (hS : ∀ b, b ∈ S → b ∈ T) : OthC w' T ov ob := by
  rcases h with h | ⟨s, O, go, cap, x, y, J, e, ⟨h1, h2⟩, ⟨n1, n2, n3⟩, h3, h4, rest⟩
  · exact .inl h
  · exact .inr ⟨s, O, go, cap, x, y, J, e, ⟨Nat.lt_of_lt_of_le h1 k.size, by rw [k.cell (by exact h1) (fun hh => n1 (hS _ hh))]; exact h2⟩, ⟨n1, n2, n3⟩, h3.kept k fun hh => n2 (hS _ hh), h4.kept k fun hh => n3 (hS _ hh), rest⟩

theorem OthC.one {w : World} {T : List Nat} {ov : Value} {ob : Int → Bool} (h : OthC w T ov ob) :
    ∃ qa : Option Addr, SlOne w ov qa ∧ (qa = none → ∀ r, ob r = false) ∧ ∀ p, qa = some p → ∀ r, -2147483648 ≤ r → r ≤ 2147483647 → ∀ n, Calls Yba.prog 22 #[.pointer (some p), .int .i32 r] (w.drewN n) fun e w' => e = .returned (.bool (ob r)) ∧ ∃ m, w' = w.drewN m := by
  rcases h with ⟨rfl, h0⟩ | ⟨s, O, go, cap, x, y, J, rfl, ⟨-, h2⟩, -, h3, h4, ha, hl, hb, ho⟩
  · exact ⟨none, ⟨none, 0, 0, rfl, .inl ⟨rfl, rfl⟩⟩, fun _ => h0, fun p h => by cases h⟩
  · refine ⟨some ⟨O, 0, none⟩, ⟨_, _, _, rfl, .inr ⟨rfl, s, _, rfl, h2, rfl⟩⟩, fun h => (by cases h), fun p hp r r0 r1 n => ?_⟩
    cases hp
    have hrow : RRow (w.drewN n) (.slice (some ⟨go, 0, none⟩) J.length cap) J := (h4.row cap).later ((Kp.refl [] w).drewN n |>.below (Nat.le_refl _) (by simp))
    refine (contains_any O _ J r x y (w.drewN n) h3.c0 h3.c1 h3.c2 h3.c3 h3.c4 h3.c5 h3.c6 hrow ha hl r0 r1 hb.1.1 hb.1.2 hb.2.1.1 hb.2.1.2).mono ?_
    rintro e w' ⟨he, m, hm⟩
    refine ⟨?_, n + m, by rw [hm, World.drewN_drewN]⟩
    rw [he, ho]
    by_cases hr : 0 ≤ r ∧ r < 128
    · rw [if_pos hr, hb.2.2 r hr.1 hr.2]
    · rw [if_neg hr]

theorem or_val (z : Int) (i : Nat) (h0 : 0 ≤ z) (h1 : z ≤ 18446744073709551615) (hi : i < 64) : bits .or .u64 z (IntKind.u64.wrap ((2 : Int) ^ i)) = ((z.toNat ||| 2 ^ i : Nat) : Int) := by
  have h2 : 2 ^ i < 2 ^ 64 := Nat.pow_lt_pow_right (by omega) hi
  have e : (2 : Int) ^ i = ((2 ^ i : Nat) : Int) := by simp
  rw [e, wrap64 _ h2, bits_or_two z i h0 h1 hi]

theorem Cls.setX {w : World} {C : Nat} {neg : Bool} {v ov : Value} {x y : Int} (h : Cls w C neg v ov x y) (x' : Int) : Cls (w.setCell ⟨C, 5, none⟩ (.int .u64 x')) C neg v ov x' y := by
  have e : ∀ j, j ≠ 5 → (w.setCell ⟨C, 5, none⟩ (.int .u64 x')).cell? ⟨C, j, none⟩ = w.cell? ⟨C, j, none⟩ := fun j hj => by rw [World.cell?_setCell_other (h := by intro e; injection e with e1 e2; omega)]
  exact ⟨by simpa using h.lt, by rw [e 0 (by omega)]; exact h.c0, by rw [e 1 (by omega)]; exact h.c1, by rw [e 2 (by omega)]; exact h.c2, by rw [e 3 (by omega)]; exact h.c3, by rw [e 4 (by omega)]; exact h.c4, World.cell?_setCell_same _ _ _ (u := _) h.c5, by rw [e 6 (by omega)]; exact h.c6, fun j => by rw [World.frozen?_setCell]; exact h.fz j⟩
theorem Cls.setY {w : World} {C : Nat} {neg : Bool} {v ov : Value} {x y : Int} (h : Cls w C neg v ov x y) (y' : Int) : Cls (w.setCell ⟨C, 6, none⟩ (.int .u64 y')) C neg v ov x y' := by
  have e : ∀ j, j ≠ 6 → (w.setCell ⟨C, 6, none⟩ (.int .u64 y')).cell? ⟨C, j, none⟩ = w.cell? ⟨C, j, none⟩ := fun j hj => by rw [World.cell?_setCell_other (h := by intro e; injection e with e1 e2; omega)]
  exact ⟨by simpa using h.lt, by rw [e 0 (by omega)]; exact h.c0, by rw [e 1 (by omega)]; exact h.c1, by rw [e 2 (by omega)]; exact h.c2, by rw [e 3 (by omega)]; exact h.c3, by rw [e 4 (by omega)]; exact h.c4, by rw [e 5 (by omega)]; exact h.c5, World.cell?_setCell_same _ _ _ (u := _) h.c6, fun j => by rw [World.frozen?_setCell]; exact h.fz j⟩

/-- One bit is set. -/
theorem set_bit {w : World} {C g m cap r : Nat} {neg : Bool} {ov : Value} {x y z : Int} {f : Int → Bool} {J : List (Int × Int)} {w0 : World} (hC : Cls w C neg (.slice (some ⟨g, 0, none⟩) m cap) ov x y) (hb : BitsK x y f r) (hr : r < 128) (hf : f r = true) (hz : z = if r < 64 then x else y)
    (hrow : RowAt w g J) (hk : Kp [C, g] w0 w) (hCg : C ≠ g) :
    ∃ x' y', Cls (w.setCell ⟨C, 5 + r / 64, none⟩ (.int .u64 (bits .or .u64 z (IntKind.u64.wrap ((2 : Int) ^ (r % 64)))))).drew C neg (.slice (some ⟨g, 0, none⟩) m cap) ov x' y' ∧ BitsK x' y' f ((r + 1 : Nat) : Int) ∧
      RowAt (w.setCell ⟨C, 5 + r / 64, none⟩ (.int .u64 (bits .or .u64 z (IntKind.u64.wrap ((2 : Int) ^ (r % 64)))))).drew g J ∧ Kp [C, g] w0 (w.setCell ⟨C, 5 + r / 64, none⟩ (.int .u64 (bits .or .u64 z (IntKind.u64.wrap ((2 : Int) ^ (r % 64)))))).drew := by
  have hrow' : ∀ u, RowAt (w.setCell ⟨C, 5 + r / 64, none⟩ u).drew g J := fun u => hrow.kept (((Kp.refl [C] w).setCell (by simp) u).drewN 1) (by simp; omega)
  have hk' : ∀ u, Kp [C, g] w0 (w.setCell ⟨C, 5 + r / 64, none⟩ u).drew := fun u => (hk.setCell (by simp) u).drewN 1
  by_cases h64 : r < 64
  · rw [if_pos h64] at hz
    subst hz
    have hd : r / 64 = 0 := by omega
    have hm : r % 64 = r := by omega
    have hs := bitsK_setX hb hf (by omega) (by omega)
    rw [show ((r : Int)).toNat = r by omega] at hs
    refine ⟨_, y, ?_, hs, hrow' _, hk' _⟩
    rw [hm, or_val _ _ hb.1.1 hb.1.2 h64, hd]
    exact (hC.setX _).kept ((Kp.refl [] _).drewN 1) (by simp)
  · rw [if_neg h64] at hz
    subst hz
    have hd : r / 64 = 1 := by omega
    have hs := bitsK_setY hb hf (by omega) (by omega)
    rw [show ((r : Int) % 64).toNat = r % 64 by omega] at hs
    refine ⟨x, _, ?_, hs, hrow' _, hk' _⟩
    rw [or_val _ _ hb.2.1.1 hb.2.1.2 (by omega), hd]
    exact (hC.setY _).kept ((Kp.refl [] _).drewN 1) (by simp)

/-- 'holds' at a set of ranges and of at most one other set. -/
theorem holdsC {w : World} {C g cap : Nat} {neg : Bool} {ov : Value} {x y : Int} {J : List (Int × Int)} {T : List Nat} {ob : Int → Bool} (hC : Cls w C neg (.slice (some ⟨g, 0, none⟩) J.length cap) ov x y) (hr : RowAt w g J) (ha : Asc J) (hl : J.length ≤ 1048576) (ho : OthC w T ov ob) (r : Int) (r0 : -2147483648 ≤ r) (r1 : r ≤ 2147483647) :
    Calls Yba.prog 13 #[.pointer (some ⟨C, 0, none⟩), .int .i32 r] w fun e w' => e = .returned (.bool ((inRs J r || ob r) != neg)) ∧ ∃ m, w' = w.drewN m := by
  obtain ⟨qa, so, o0, hO⟩ := ho.one
  have h := holds_any C neg _ (.slice none 0 0) (.slice none 0 0) ov J r none none qa false false (ob r) w hC.c0 hC.c1 hC.c2 hC.c3 hC.c4 (hr.row cap) ha hl ⟨none, 0, 0, rfl, .inl ⟨rfl, rfl⟩⟩ ⟨none, 0, 0, rfl, .inl ⟨rfl, rfl⟩⟩ so
    (fun _ => rfl) (fun _ => rfl) (fun h => o0 h r) (fun p h => by cases h) (fun p h => by cases h) (fun p hp n => hO p hp r r0 r1 n)
  rw [show ((inRs J r || false || false || ob r) != neg) = ((inRs J r || ob r) != neg) by simp] at h
  exact h
end Go.Proofs.Ybulkatic
