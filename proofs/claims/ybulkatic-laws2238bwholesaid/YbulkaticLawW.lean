import Derived.Test.YbulkaticOther
namespace Go.Proofs.Ybulkatic
open Go.RowKit

theorem hiOf_bd (a b : Int) (ha : 0 ≤ a) (hb : 0 ≤ b) : 0 ≤ hiOf a b ∧ hiOf a b ≤ 65535 := by
  unfold hiOf; split <;> omega

/-- The argument's cells. -/
def argC (a0 a1 : Option Addr) (l0 k0 l1 k1 : Nat) (neg : Bool) (tlo tln : Int) (hasT : Bool) (nlo nln : Int) (hasN : Bool) (b0 b1 : Option Addr) (m0 d0 m1 d1 : Nat) (x y : Int) (hasO : Bool) (r : Int) : List Value :=
  [.slice a0 l0 k0, .slice a1 l1 k1, .bool neg, .int .u16 tlo, .int .u16 tln, .bool hasT, .int .u16 nlo, .int .u16 nln, .bool hasN, .slice b0 m0 d0, .slice b1 m1 d1, .int .u64 x, .int .u64 y, .bool hasO, .int .i32 r]

set_option maxRecDepth 100000 in
set_option maxHeartbeats 800000 in
theorem whole_law (a0 a1 : Option Addr) (l0 k0 l1 k1 : Nat) (neg : Bool) (tlo tln : Int) (hasT : Bool) (nlo nln : Int) (hasN : Bool) (b0 b1 : Option Addr) (m0 d0 m1 d1 : Nat) (x y : Int) (hasO : Bool) (r : Int)
    (z0 z1 y0 y1 : List Int) (w : World) (w0 : IsRow .u16 w a0 l0 k0 z0) (w1 : IsRow .u8 w a1 l1 k1 z1) (w2 : IsRow .u16 w b0 m0 d0 y0) (w3 : IsRow .u8 w b1 m1 d1 y1)
    (t0 : 0 ≤ tlo) (t1 : tlo ≤ 65535) (t2 : 0 ≤ tln) (t3 : tln ≤ 65535) (n0 : 0 ≤ nlo) (n1 : nlo ≤ 65535) (n2 : 0 ≤ nln) (n3 : nln ≤ 65535)
    (x0 : 0 ≤ x) (x1 : x ≤ 18446744073709551615) (yy0 : 0 ≤ y) (yy1 : y ≤ 18446744073709551615) (r0 : -2147483648 ≤ r) (r1 : r ≤ 2147483647) :
    Calls Yba.prog 6 #[.agg (argC a0 a1 l0 k0 l1 k1 neg tlo tln hasT nlo nln hasN b0 b1 m0 d0 m1 d1 x y hasO r).toArray] w fun e w' => e = .returned (.bool true) ∧ Below w.heap.size w w' := by
  have L0 := w0.shape.1
  have L1 := w1.shape.1
  have L2 := w2.shape.1
  have L3 := w3.shape.1
  have HW : Hid (IsRow .u16 w a0 l0 k0 z0 ∧ IsRow .u8 w a1 l1 k1 z1 ∧ IsRow .u16 w b0 m0 d0 y0 ∧ IsRow .u8 w b1 m1 d1 y1) := ⟨w0, w1, w2, w3⟩
  have HD : Hid ((∀ j, 0 ≤ z0.getD j 0 ∧ z0.getD j 0 ≤ 65535) ∧ (∀ j, 0 ≤ z1.getD j 0 ∧ z1.getD j 0 ≤ 255) ∧ (∀ j, 0 ≤ y0.getD j 0 ∧ y0.getD j 0 ≤ 65535) ∧ (∀ j, 0 ≤ y1.getD j 0 ∧ y1.getD j 0 ≤ 255)) :=
    ⟨fun j => range_u16 w0.shape.2.1 j, fun j => range_u8 w1.shape.2.1 j, fun j => range_u16 w2.shape.2.1 j, fun j => range_u8 w3.shape.2.1 j⟩
  clear w0 w1 w2 w3
  unfold argC
  by_cases h0 : 1024 < l0
  · have q0 : decide ((1024 : Int) < (l0 : Int)) = true := by simp; omega
    go_enter Yba.func6, Yba.ntmps6
    go_wp2
    go_ret
    exact ⟨rfl, (Below.refl _ _).alloc (Nat.le_refl _) _⟩
  have q0 : decide ((1024 : Int) < (l0 : Int)) = false := by simp; omega
  by_cases h1 : 1024 < l1
  · have q1 : decide ((1024 : Int) < (l1 : Int)) = true := by simp; omega
    go_enter Yba.func6, Yba.ntmps6
    go_wp2
    go_ret
    exact ⟨rfl, (Below.refl _ _).alloc (Nat.le_refl _) _⟩
  have q1 : decide ((1024 : Int) < (l1 : Int)) = false := by simp; omega
  by_cases h2 : 1024 < m0
  · have q2 : decide ((1024 : Int) < (m0 : Int)) = true := by simp; omega
    go_enter Yba.func6, Yba.ntmps6
    go_wp2
    go_ret
    exact ⟨rfl, (Below.refl _ _).alloc (Nat.le_refl _) _⟩
  have q2 : decide ((1024 : Int) < (m0 : Int)) = false := by simp; omega
  by_cases h3 : 1024 < m1
  · have q3 : decide ((1024 : Int) < (m1 : Int)) = true := by simp; omega
    go_enter Yba.func6, Yba.ntmps6
    go_wp2
    go_ret
    exact ⟨rfl, (Below.refl _ _).alloc (Nat.le_refl _) _⟩
  have q3 : decide ((1024 : Int) < (m1 : Int)) = false := by simp; omega
  obtain ⟨n, e0, e1, e2, e3⟩ : ∃ n : Nat, n ≤ l0 ∧ n ≤ l1 ∧ (n = l0 ∨ n = l1) ∧ n ≤ 1024 := by
    by_cases h : l0 ≤ l1
    · exact ⟨l0, by omega, by omega, .inl rfl, by omega⟩
    · exact ⟨l1, by omega, by omega, .inr rfl, by omega⟩
  obtain ⟨n', f0, f1, f2, f3⟩ : ∃ n : Nat, n ≤ m0 ∧ n ≤ m1 ∧ (n = m0 ∨ n = m1) ∧ n ≤ 1024 := by
    by_cases h : m0 ≤ m1
    · exact ⟨m0, by omega, by omega, .inl rfl, by omega⟩
    · exact ⟨m1, by omega, by omega, .inr rfl, by omega⟩
  have HA : Hid (Asc (rngs z0 z1 n)) := rngs_asc HD.out.1 HD.out.2.1 n
  have HA' : Hid (Asc (rngs y0 y1 n')) := rngs_asc HD.out.2.2.1 HD.out.2.2.2 n'
  have HL : Hid ((rngs z0 z1 n).length ≤ 1048576) := by show _ ≤ _; rw [rngs_len]; omega
  have HL' : Hid ((rngs y0 y1 n').length ≤ 1048576) := by show _ ≤ _; rw [rngs_len]; omega
  have E2 : Hid (n = l0 ∨ n = l1) := e2
  have F2 : Hid (n' = m0 ∨ n' = m1) := f2
  clear e2 f2 HD
  go_enter Yba.func6, Yba.ntmps6
  go_wp2_with fail
  obtain ⟨o, ho⟩ : ∃ o, o = Obj.cells #[.slice a0 l0 k0, .slice a1 l1 k1, .bool neg, .int .u16 tlo, .int .u16 tln, .bool hasT, .int .u16 nlo, .int .u16 nln, .bool hasN, .slice b0 m0 d0, .slice b1 m1 d1, .int .u64 x, .int .u64 y, .bool hasO, .int .i32 r] 47 := ⟨_, rfl⟩
  have hb0 : Below w.heap.size w (w.alloc o) := (Below.refl _ _).alloc (Nat.le_refl _) _
  have hA0 : ACells w.heap.size (w.alloc o) (argC a0 a1 l0 k0 l1 k1 neg tlo tln hasT nlo nln hasN b0 b1 m0 d0 m1 d1 x y hasO r) := by
    intro j u hj
    rw [ho, World.cell?_alloc_new]
    show (argC a0 a1 l0 k0 l1 k1 neg tlo tln hasT nlo nln hasN b0 b1 m0 d0 m1 d1 x y hasO r).toArray[j]? = some u
    rw [List.getElem?_toArray]
    exact hj
  rw [← ho]
  clear ho
  refine (brng_any a0 l0 k0 z0 a1 l1 k1 z1 (w.alloc o) (HW.out.1.later hb0) (HW.out.2.1.later hb0) n e0 e1 E2.out e3).mono ?_
  rintro e w1 ⟨v, rfl, hrow, hb1⟩
  have hA1 : ACells w.heap.size w1 (argC a0 a1 l0 k0 l1 k1 neg tlo tln hasT nlo nln hasN b0 b1 m0 d0 m1 d1 x y hasO r) := hA0.kept (C := w1.heap.size) (by have := hb1.size; simp at this; omega) (Kept.below hb1)
  have hs1 : w.heap.size < w1.heap.size := by have := hb1.size; simp at this; omega
  have HB1 : Hid (Below w.heap.size w w1) := hb0.trans (hb1.mono (by simp))
  have HA1 : Hid (ACells w.heap.size w1 (argC a0 a1 l0 k0 l1 k1 neg tlo tln hasT nlo nln hasN b0 b1 m0 d0 m1 d1 x y hasO r)) := hA1
  have HR : Hid (RRow w1 v (rngs z0 z1 n)) := hrow
  have c2 := hA1 2 _ rfl
  clear hA0 hA1 hb0 hb1
  obtain ⟨ao, cap, rfl, -⟩ := hrow
  rw [rngs_len] at HR ⊢
  go_wp2_with fail
  obtain ⟨oc, hoc⟩ : ∃ oc, oc = Obj.cells #[.bool neg, .slice ao n cap, .slice none 0 0, .slice none 0 0, .slice none 0 0, .int .u64 0, .int .u64 0] 32 := ⟨_, rfl⟩
  rw [← hoc]
  refine (bin_any _ (rngs z0 z1 n) r (w1.alloc oc) (HR.out.alloc _) HL.out).mono ?_
  obtain ⟨X, hX⟩ : ∃ X, X = inRs (rngs z0 z1 n) r := ⟨_, rfl⟩
  rw [← hX]
  have HX : Hid (X = inRs (rngs z0 z1 n) r) := hX
  clear hX
  rintro e w2 ⟨rfl, hb2⟩
  obtain ⟨C, hC⟩ : ∃ C, C = w1.heap.size := ⟨_, rfl⟩
  obtain ⟨B, hB⟩ : ∃ B, B = w.heap.size := ⟨_, rfl⟩
  have HI : Hid (Inv w C B (argC a0 a1 l0 k0 l1 k1 neg tlo tln hasT nlo nln hasN b0 b1 m0 d0 m1 d1 x y hasO r) neg (.slice ao n cap) (rngs z0 z1 n) r w2 (.slice none 0 0) (.slice none 0 0) (.slice none 0 0) none none) := by
    have hk : Kept (w1.heap.size + 1) w1 w2 := ((Kept.refl _ w1).alloc oc).trans (Kept.below hb2)
    have hn : ∀ j u, ([.bool neg, .slice ao n cap, .slice none 0 0, .slice none 0 0, .slice none 0 0, .int .u64 0, .int .u64 0] : List Value)[j]? = some u → w2.cell? ⟨C, j, none⟩ = some u := by
      intro j u hj
      rw [hb2.cell (by rw [hC]; simp), hC, hoc, World.cell?_alloc_new]
      rw [← List.getElem?_toArray] at hj
      exact hj
    refine ⟨(HB1.out.alloc HB1.out.size oc).trans (hb2.mono ?_), ⟨?_, ?_, ?_, ?_⟩, ?_, ⟨hn 0 _ rfl, hn 1 _ rfl, hn 2 _ rfl, hn 3 _ rfl, hn 4 _ rfl⟩, ?_, .inl ⟨rfl, rfl⟩, .inl ⟨rfl, rfl⟩⟩
    · simp; omega
    · omega
    · have := hb2.size; simp at this; omega
    · omega
    · intro j
      rw [hb2.frozen (by rw [hC]; simp), hC, hoc, World.frozen?_alloc_new]
    · rw [hB]; exact HA1.out.kept (by omega) hk
    · exact (HR.out.alloc oc).later hb2
  rw [← hC, ← hB]
  clear hC hB hb2 HR HA1 HB1 c2 hs1 hoc
  have c5 := HI.out.2.2.1 5 _ rfl
  go_upto_if 51 with fail
  go_cut [6] (fun z ws => ∃ tv q, z = .bool (X || q.getD false) ∧ Inv w C B (argC a0 a1 l0 k0 l1 k1 neg tlo tln hasT nlo nln hasN b0 b1 m0 d0 m1 d1 x y hasO r) neg (.slice ao n cap) (rngs z0 z1 n) r ws tv (.slice none 0 0) (.slice none 0 0) q none)
  case first =>
    cases hasT with
    | false =>
      go_wp2
      go_meet
      case rel => exact ⟨_, none, by simp, HI.out⟩
    | true =>
      have c3 := HI.out.2.2.1 3 _ rfl
      have c4 := HI.out.2.2.1 4 _ rfl
      have b1 := hiOf_bd tlo tln t0 t2
      obtain ⟨hi, hhi⟩ : ∃ hi, hi = hiOf tlo tln := ⟨_, rfl⟩
      rw [← hhi] at b1
      have HH : Hid (hi = hiOf tlo tln) := hhi
      clear hhi
      obtain ⟨b10, b11⟩ := b1
      go_wp2_with (go_at_call 15; refine (bhi_any tlo tln _ t0 t1 t2 t3).mono ?_; rw [← HH.out]; rintro e w' ⟨rfl, hw⟩; obtain rfl := hw.symm)
      refine (btable_any _ _ _).mono ?_
      rintro e w3 ⟨rfl, hw3⟩
      have HW3 : Hid (w3 = (w2.alloc (.cells #[.int .u16 tlo, .int .u16 hi, .int .u16 1] 73)).alloc (.cells #[.slice (some ⟨w2.heap.size, 0, none⟩) 1 1, .slice none 0 0, .int .i64 0] 77)) := hw3
      have hs3 : w3.heap.size = w2.heap.size + 1 + 1 := by rw [hw3]; simp
      clear hw3
      have hC := HI.out.2.1.2.1
      have cC : (w3.alloc (.cells #[.pointer (some ⟨w2.heap.size + 1, 0, none⟩)] 49)).cell? ⟨C, 2, none⟩ = some (.slice none 0 0) := by
        rw [World.cell?_alloc_lt _ _ _ (by rw [hs3]; simp; omega), HW3.out, World.cell?_alloc_lt _ _ _ (by simp; omega), World.cell?_alloc_lt _ _ _ (by exact hC)]
        exact HI.out.2.2.2.1.2.2.1
      have fC : (w3.alloc (.cells #[.pointer (some ⟨w2.heap.size + 1, 0, none⟩)] 49)).frozen? ⟨C, 2, none⟩ = false := by
        rw [World.frozen?_alloc_past _ _ _ (by omega), HW3.out, World.frozen?_alloc_past _ _ _ (by simp; omega), World.frozen?_alloc_past _ _ _ (by omega)]
        exact HI.out.2.1.2.2.2 2
      go_upto_region 10 with fail
      obtain ⟨W', hW'⟩ : ∃ W', W' = (w3.alloc (.cells #[.pointer (some ⟨w2.heap.size + 1, 0, none⟩)] 49)).setCell ⟨C, 2, none⟩ (.slice (some ⟨w3.heap.size, 0, none⟩) 1 1) := ⟨_, rfl⟩
      obtain ⟨s0, s1, s2, s3, s4, s5⟩ := tab_step w w2 w3 W' C 2 tlo hi r _ HW3.out hW' hC HI.out.2.2.2.1.2.2.1 HI.out.1 HI.out.2.1.1 t0 b10 b11
      rw [hs3] at hW' s3 s5
      rw [← hW']
      have HI2 : Hid (Inv w C B (argC a0 a1 l0 k0 l1 k1 neg tlo tln true nlo nln hasN b0 b1 m0 d0 m1 d1 x y hasO r) neg (.slice ao n cap) (rngs z0 z1 n) r W' (.slice (some ⟨w2.heap.size + 1 + 1, 0, none⟩) 1 1) (.slice none 0 0) (.slice none 0 0) (some (decide (tlo ≤ r) && decide (r ≤ hi))) none) := by
        obtain ⟨i1, ⟨i2, i3, i4, i5⟩, i6, ⟨i7, i8, i9, i10, i11⟩, i12, i13, i14⟩ := HI.out
        exact ⟨s2, ⟨i2, Nat.lt_of_lt_of_le i3 s1.1, i4, fun j => by rw [s0, i5]⟩, i6.kept (by omega) s1, ⟨s4 0 _ (by omega) i7, s4 1 _ (by omega) i8, s3, s4 3 _ (by omega) i10, s4 4 _ (by omega) i11⟩, i12.kept i7 s1, s5, .inl ⟨rfl, rfl⟩⟩
      clear s0 s1 s2 s3 s4 s5 hW' HI cC fC c3 c4 c5 HW3 hs3 hC
      have c3 := HI2.out.2.2.1 3 _ rfl
      by_cases g1 : tlo ≤ r
      · by_cases g2 : r ≤ hi
        · go_wp2
          go_meet
          case rel => exact ⟨_, _, by simp [g1, g2], HI2.out⟩
        · go_wp2
          go_meet
          case rel => exact ⟨_, _, by rw [show decide (r ≤ hi) = false by simpa using g2]; simp, HI2.out⟩
      · have g1' : decide (tlo ≤ r) = false := by simpa using g1
        go_wp2
        go_meet
        case rel => exact ⟨_, _, by rw [g1']; simp, HI2.out⟩
  case rest =>
    clear HI c5
    obtain ⟨tv, qt, rfl, hI⟩ := hcut
    have HI : Hid (Inv w C B (argC a0 a1 l0 k0 l1 k1 neg tlo tln hasT nlo nln hasN b0 b1 m0 d0 m1 d1 x y hasO r) neg (.slice ao n cap) (rngs z0 z1 n) r wc tv (.slice none 0 0) (.slice none 0 0) qt none) := hI
    clear hI
    obtain ⟨X1, hX1⟩ : ∃ X1, X1 = (X || qt.getD false) := ⟨_, rfl⟩
    have HX1 : Hid (X1 = (X || qt.getD false)) := hX1
    rw [← hX1]
    clear hX1
    have c8 := HI.out.2.2.1 8 _ rfl
    go_upto_if 77 with fail
    go_cut [6] (fun z ws => ∃ nv q, z = .bool (X1 || (q.map not).getD false) ∧ Inv w C B (argC a0 a1 l0 k0 l1 k1 neg tlo tln hasT nlo nln hasN b0 b1 m0 d0 m1 d1 x y hasO r) neg (.slice ao n cap) (rngs z0 z1 n) r ws tv nv (.slice none 0 0) qt q)
    case first =>
      cases hasN with
      | false =>
        go_wp2
        go_meet
        case rel => exact ⟨_, none, by simp, HI.out⟩
      | true =>
        have c3 := HI.out.2.2.1 6 _ rfl
        have c4 := HI.out.2.2.1 7 _ rfl
        have b1 := hiOf_bd nlo nln n0 n2
        obtain ⟨hi, hhi⟩ : ∃ hi, hi = hiOf nlo nln := ⟨_, rfl⟩
        rw [← hhi] at b1
        have HH : Hid (hi = hiOf nlo nln) := hhi
        clear hhi
        obtain ⟨b10, b11⟩ := b1
        go_wp2_with (go_at_call 15; refine (bhi_any nlo nln _ n0 n1 n2 n3).mono ?_; rw [← HH.out]; rintro e w' ⟨rfl, hw⟩; obtain rfl := hw.symm)
        refine (btable_any _ _ _).mono ?_
        rintro e w3 ⟨rfl, hw3⟩
        have HW3 : Hid (w3 = (wc.alloc (.cells #[.int .u16 nlo, .int .u16 hi, .int .u16 1] 73)).alloc (.cells #[.slice (some ⟨wc.heap.size, 0, none⟩) 1 1, .slice none 0 0, .int .i64 0] 77)) := hw3
        have hs3 : w3.heap.size = wc.heap.size + 1 + 1 := by rw [hw3]; simp
        clear hw3
        have hC := HI.out.2.1.2.1
        have cC : (w3.alloc (.cells #[.pointer (some ⟨wc.heap.size + 1, 0, none⟩)] 49)).cell? ⟨C, 3, none⟩ = some (.slice none 0 0) := by
          rw [World.cell?_alloc_lt _ _ _ (by rw [hs3]; simp; omega), HW3.out, World.cell?_alloc_lt _ _ _ (by simp; omega), World.cell?_alloc_lt _ _ _ (by exact hC)]
          exact HI.out.2.2.2.1.2.2.2.1
        have fC : (w3.alloc (.cells #[.pointer (some ⟨wc.heap.size + 1, 0, none⟩)] 49)).frozen? ⟨C, 3, none⟩ = false := by
          rw [World.frozen?_alloc_past _ _ _ (by omega), HW3.out, World.frozen?_alloc_past _ _ _ (by simp; omega), World.frozen?_alloc_past _ _ _ (by omega)]
          exact HI.out.2.1.2.2.2 3
        go_upto_region 15 with fail
        obtain ⟨W', hW'⟩ : ∃ W', W' = (w3.alloc (.cells #[.pointer (some ⟨wc.heap.size + 1, 0, none⟩)] 49)).setCell ⟨C, 3, none⟩ (.slice (some ⟨w3.heap.size, 0, none⟩) 1 1) := ⟨_, rfl⟩
        obtain ⟨s0, s1, s2, s3, s4, s5⟩ := tab_step w wc w3 W' C 3 nlo hi r _ HW3.out hW' hC HI.out.2.2.2.1.2.2.2.1 HI.out.1 HI.out.2.1.1 n0 b10 b11
        rw [hs3] at hW' s3 s5
        rw [← hW']
        have HI2 : Hid (Inv w C B (argC a0 a1 l0 k0 l1 k1 neg tlo tln hasT nlo nln true b0 b1 m0 d0 m1 d1 x y hasO r) neg (.slice ao n cap) (rngs z0 z1 n) r W' tv (.slice (some ⟨wc.heap.size + 1 + 1, 0, none⟩) 1 1) (.slice none 0 0) qt (some (decide (nlo ≤ r) && decide (r ≤ hi)))) := by
          obtain ⟨i1, ⟨i2, i3, i4, i5⟩, i6, ⟨i7, i8, i9, i10, i11⟩, i12, i13, i14⟩ := HI.out
          exact ⟨s2, ⟨i2, Nat.lt_of_lt_of_le i3 s1.1, i4, fun j => by rw [s0, i5]⟩, i6.kept (by omega) s1, ⟨s4 0 _ (by omega) i7, s4 1 _ (by omega) i8, s4 2 _ (by omega) i9, s3, s4 4 _ (by omega) i11⟩, i12.kept i7 s1, i13.kept i7 s1, s5⟩
        clear s0 s1 s2 s3 s4 s5 hW' HI cC fC c3 c4 c8 HW3 hs3 hC
        have c3 := HI2.out.2.2.1 6 _ rfl
        by_cases g1 : nlo ≤ r
        · by_cases g2 : r ≤ hi
          · go_wp2
            go_meet
            case rel => exact ⟨_, _, by simp [g1, g2], HI2.out⟩
          · go_wp2
            go_meet
            case rel => exact ⟨_, _, by rw [show decide (r ≤ hi) = false by simpa using g2]; simp, HI2.out⟩
        · have g1' : decide (nlo ≤ r) = false := by simpa using g1
          go_wp2
          go_meet
          case rel => exact ⟨_, _, by rw [g1']; simp, HI2.out⟩
    case rest =>
      clear HI c8
      obtain ⟨nv, qn, rfl, hI⟩ := hcut
      have HI : Hid (Inv w C B (argC a0 a1 l0 k0 l1 k1 neg tlo tln hasT nlo nln hasN b0 b1 m0 d0 m1 d1 x y hasO r) neg (.slice ao n cap) (rngs z0 z1 n) r wc tv nv (.slice none 0 0) qt qn) := hI
      clear hI
      obtain ⟨X2, hX2⟩ : ∃ X2, X2 = (X1 || (qn.map not).getD false) := ⟨_, rfl⟩
      have HX2 : Hid (X2 = (X1 || (qn.map not).getD false)) := hX2
      rw [← hX2]
      clear hX2
      have c13 := HI.out.2.2.1 13 _ rfl
      go_upto_if 104 with fail
      go_cut [6] (fun z ws => ∃ ov q, z = .bool (X2 || q.getD false) ∧ Inv w C B (argC a0 a1 l0 k0 l1 k1 neg tlo tln hasT nlo nln hasN b0 b1 m0 d0 m1 d1 x y hasO r) neg (.slice ao n cap) (rngs z0 z1 n) r ws tv nv ov qt qn ∧ OthQ ws ov r q)
      case first =>
        cases hasO with
        | false =>
          go_wp2
          go_meet
          case rel => exact ⟨_, none, by simp, HI.out, .inl ⟨rfl, rfl⟩⟩
        | true =>
          have c9 := HI.out.2.2.1 9 _ rfl
          have c10 := HI.out.2.2.1 10 _ rfl
          go_wp2_with fail
          refine (brng_any b0 m0 d0 y0 b1 m1 d1 y1 wc (HW.out.2.2.1.later HI.out.1) (HW.out.2.2.2.later HI.out.1) n' f0 f1 F2.out f3).mono ?_
          rintro e w3 ⟨v3, rfl, hrow, hb3⟩
          have HR3 : Hid (RRow w3 v3 (rngs y0 y1 n')) := hrow
          have HB3 : Hid (Below wc.heap.size wc w3) := hb3
          have c11 := cell_later hb3 (HI.out.2.2.1 11 _ rfl)
          have c12 := cell_later hb3 (HI.out.2.2.1 12 _ rfl)
          have hC : C < w3.heap.size := Nat.lt_of_lt_of_le HI.out.2.1.2.1 hb3.size
          obtain ⟨ao3, cap3, rfl, -⟩ := hrow
          rw [rngs_len] at HR3 ⊢
          have cC : ((w3.alloc (.cells #[.bool false, .slice ao3 n' cap3, .slice none 0 0, .slice none 0 0, .slice none 0 0, .int .u64 x, .int .u64 y] 32)).alloc (.cells #[.pointer (some ⟨w3.heap.size, 0, none⟩)] 26)).cell? ⟨C, 4, none⟩ = some (.slice none 0 0) := by
            rw [World.cell?_alloc_lt _ _ _ (by simp; omega), World.cell?_alloc_lt _ _ _ (by exact hC)]
            exact cell_later HB3.out HI.out.2.2.2.1.2.2.2.2
          have fC : ((w3.alloc (.cells #[.bool false, .slice ao3 n' cap3, .slice none 0 0, .slice none 0 0, .slice none 0 0, .int .u64 x, .int .u64 y] 32)).alloc (.cells #[.pointer (some ⟨w3.heap.size, 0, none⟩)] 26)).frozen? ⟨C, 4, none⟩ = false := by
            rw [World.frozen?_alloc_past _ _ _ (by simp; omega), World.frozen?_alloc_past _ _ _ hC, HB3.out.frozen (by exact HI.out.2.1.2.1)]
            exact HI.out.2.1.2.2.2 4
          clear hb3
          go_upto_region 22 with fail
          obtain ⟨W', hW'⟩ : ∃ W', W' = ((w3.setCell ⟨C, 4, none⟩ (.slice (some ⟨w3.heap.size + 1, 0, none⟩) 1 1)).alloc (.cells #[.bool false, .slice ao3 n' cap3, .slice none 0 0, .slice none 0 0, .slice none 0 0, .int .u64 x, .int .u64 y] 32)).alloc (.cells #[.pointer (some ⟨w3.heap.size, 0, none⟩)] 26) := ⟨_, rfl⟩
          obtain ⟨s0, s1, s2, s3, s4, s5, s6⟩ := oth_step w wc w3 W' C (.slice ao3 n' cap3) (rngs y0 y1 n') x y r _ HB3.out HR3.out HA'.out HL'.out ⟨x0, x1, yy0, yy1⟩ hW' HI.out.2.2.2.1.1 HI.out.2.2.2.1.2.2.2.2 HI.out.1 HI.out.2.1.1
          rw [← hW']
          have HR4 : Hid (RRow W' (.slice ao3 n' cap3) (rngs y0 y1 n')) := s5
          have HO4 : Hid (OthQ W' (.slice (some ⟨w3.heap.size + 1, 0, none⟩) 1 1) r (some (if 0 ≤ r ∧ r < 128 then bit x y r else inRs (rngs y0 y1 n') r))) := s6
          have HI2 : Hid (Inv w C B (argC a0 a1 l0 k0 l1 k1 neg tlo tln hasT nlo nln hasN b0 b1 m0 d0 m1 d1 x y true r) neg (.slice ao n cap) (rngs z0 z1 n) r W' tv nv (.slice (some ⟨w3.heap.size + 1, 0, none⟩) 1 1) qt qn) := by
            obtain ⟨i1, ⟨i2, i3, i4, i5⟩, i6, ⟨i7, i8, i9, i10, i11⟩, i12, i13, i14⟩ := HI.out
            exact ⟨s2, ⟨i2, Nat.lt_of_lt_of_le i3 s1.1, i4, fun j => by rw [s0, i5]⟩, i6.kept (by omega) s1, ⟨s4 0 _ (by omega) i7, s4 1 _ (by omega) i8, s4 2 _ (by omega) i9, s4 3 _ (by omega) i10, s3⟩, i12.kept i7 s1, i13.kept i7 s1, i14.kept i7 s1⟩
          clear s0 s1 s2 s3 s4 s5 s6 hW' HI cC fC c9 c10 c11 c12 HB3 HR3 c13
          generalize w3.heap.size + 1 = sb at HO4 HI2
          by_cases g1 : 0 ≤ r ∧ r < 128
          · rw [if_pos g1] at HO4
            obtain ⟨g1, g2⟩ := g1
            have c11 := HI2.out.2.2.1 11 _ rfl
            have c12 := HI2.out.2.2.1 12 _ rfl
            have HO5 : Hid (OthQ W' (.slice (some ⟨sb, 0, none⟩) 1 1) r (some (bit x y r))) := HO4.out
            clear HO4
            by_cases g3 : r < 64
            · have hbit : bit x y r = (bits BinOp.and IntKind.u64 (x / 2 ^ (r % 64).toNat) 1 != 0) := by rw [bit, if_pos g3]
              rw [hbit] at HO5
              clear hbit
              go_upto_if 145 with fail
              generalize (bits BinOp.and IntKind.u64 (x / 2 ^ (r % 64).toNat) 1 != 0) = Y at HO5 ⊢
              cases Y
              · go_wp2
                go_meet
                case rel => exact ⟨_, _, by simp, HI2.out, HO5.out⟩
              · go_wp2
                go_meet
                case rel => exact ⟨_, _, by simp, HI2.out, HO5.out⟩
            · have hbit : bit x y r = (bits BinOp.and IntKind.u64 (y / 2 ^ (r % 64).toNat) 1 != 0) := by rw [bit, if_neg g3]
              rw [hbit] at HO5
              clear hbit
              go_upto_if 145 with fail
              generalize (bits BinOp.and IntKind.u64 (y / 2 ^ (r % 64).toNat) 1 != 0) = Y at HO5 ⊢
              cases Y
              · go_wp2
                go_meet
                case rel => exact ⟨_, _, by simp, HI2.out, HO5.out⟩
              · go_wp2
                go_meet
                case rel => exact ⟨_, _, by simp, HI2.out, HO5.out⟩
          · rw [if_neg g1] at HO4
            have hr : r < 0 ∨ 128 ≤ r := by omega
            clear g1
            rcases hr with hr | hr
            · have g1 : decide (0 ≤ r) = false := by simp; omega
              go_wp2_with fail
              refine (bin_any _ (rngs y0 y1 n') r W' HR4.out HL'.out).mono ?_
              rintro e w5 ⟨rfl, hb5⟩
              have HI3 : Hid (Inv w C B (argC a0 a1 l0 k0 l1 k1 neg tlo tln hasT nlo nln hasN b0 b1 m0 d0 m1 d1 x y true r) neg (.slice ao n cap) (rngs z0 z1 n) r w5 tv nv (.slice (some ⟨sb, 0, none⟩) 1 1) qt qn) := HI2.out.later hb5
              have HO5 : Hid (OthQ w5 (.slice (some ⟨sb, 0, none⟩) 1 1) r (some (inRs (rngs y0 y1 n') r))) := HO4.out.later hb5
              clear hb5 HI2 HO4 HR4
              go_upto_if 145 with fail
              generalize inRs (rngs y0 y1 n') r = Y at HO5 ⊢
              cases Y
              · go_wp2
                go_meet
                case rel => exact ⟨_, _, by simp, HI3.out, HO5.out⟩
              · go_wp2
                go_meet
                case rel => exact ⟨_, _, by simp, HI3.out, HO5.out⟩
            · have g1 : decide (0 ≤ r) = true := by simp; omega
              have g2 : decide (r < 128) = false := by simp; omega
              go_wp2_with fail
              refine (bin_any _ (rngs y0 y1 n') r W' HR4.out HL'.out).mono ?_
              rintro e w5 ⟨rfl, hb5⟩
              have HI3 : Hid (Inv w C B (argC a0 a1 l0 k0 l1 k1 neg tlo tln hasT nlo nln hasN b0 b1 m0 d0 m1 d1 x y true r) neg (.slice ao n cap) (rngs z0 z1 n) r w5 tv nv (.slice (some ⟨sb, 0, none⟩) 1 1) qt qn) := HI2.out.later hb5
              have HO5 : Hid (OthQ w5 (.slice (some ⟨sb, 0, none⟩) 1 1) r (some (inRs (rngs y0 y1 n') r))) := HO4.out.later hb5
              clear hb5 HI2 HO4 HR4
              go_upto_if 145 with fail
              generalize inRs (rngs y0 y1 n') r = Y at HO5 ⊢
              cases Y
              · go_wp2
                go_meet
                case rel => exact ⟨_, _, by simp, HI3.out, HO5.out⟩
              · go_wp2
                go_meet
                case rel => exact ⟨_, _, by simp, HI3.out, HO5.out⟩
      case rest =>
        clear HI c13
        obtain ⟨ov, qo, rfl, hI, hO⟩ := hcut
        have HQ : Hid (∀ nq, Calls Yba.prog 13 #[.pointer (some ⟨C, 0, none⟩), .int .i32 r] (wc.drewN nq) fun e w' => e = .returned (.bool ((X2 || qo.getD false) != neg)) ∧ ∃ m, w' = wc.drewN m) := by
          intro nq
          have hb := b_drewN (Below.refl wc.heap.size wc) nq
          refine (whole_holds (hI.later hb) (hO.later hb) HA.out HL.out r0 r1).mono ?_
          rintro e w' ⟨he, m, hm⟩
          refine ⟨?_, nq + m, by rw [hm, World.drewN_drewN]⟩
          rw [he, HX2.out, HX1.out, HX.out]
        have HB : Hid (Below w.heap.size w wc) := hI.1
        have c2 := hI.2.2.1 2 _ rfl
        clear hI hO
        obtain ⟨Z, hZ⟩ : ∃ Z, Z = (X2 || qo.getD false) := ⟨_, rfl⟩
        rw [← hZ] at HQ ⊢
        clear hZ
        go_wp2
        go_quiet ((go_at_call 13; exact HQ.out _))
        go_wp2
        go_ret
        exact ⟨by cases Z <;> cases neg <;> rfl, b_drewN HB.out _⟩
end Go.Proofs.Ybulkatic
