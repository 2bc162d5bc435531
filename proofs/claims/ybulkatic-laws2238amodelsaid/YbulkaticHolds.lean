import Derived.Test.YbulkaticRanges
namespace Go.Proofs.Ybulkatic
open Go.RowKit

/-- A slice of pointers of no element, or of one. -/
def SlOne (w : World) (v : Value) (q : Option Addr) : Prop := ∃ ao n c, v = .slice ao n c ∧ ((n = 0 ∧ q = none) ∨ (n = 1 ∧ ∃ t p, ao = some ⟨t, 0, none⟩ ∧ w.cell? ⟨t, 0, none⟩ = some (.pointer (some p)) ∧ q = some p))

/-- The Bool ahead of the one round, and behind it. -/
def bb (k : Nat) (x t : Bool) : Bool := if k = 0 then x else x || t
theorem bb_end {k : Nat} {x t : Bool} {q : Option Addr} (h : (k = 0 ∧ q = none) ∨ k = 1) (h0 : q = none → t = false) : bb k x t = (x || t) := by
  rcases h with ⟨rfl, hq⟩ | rfl
  · simp [bb, h0 hq]
  · rfl

set_option maxRecDepth 100000 in
theorem holds_any (C : Nat) (neg : Bool) (v tv nv ov : Value) (R : List (Int × Int)) (r : Int) (qt qn qo : Option Addr) (tb nb ob : Bool) (w : World)
    (c0 : w.cell? ⟨C, 0, none⟩ = some (.bool neg)) (c1 : w.cell? ⟨C, 1, none⟩ = some v) (c2 : w.cell? ⟨C, 2, none⟩ = some tv) (c3 : w.cell? ⟨C, 3, none⟩ = some nv) (c4 : w.cell? ⟨C, 4, none⟩ = some ov)
    (hR : RRow w v R) (hasc : Asc R) (hlen : R.length ≤ 1048576) (st : SlOne w tv qt) (sn : SlOne w nv qn) (so : SlOne w ov qo)
    (t0 : qt = none → tb = false) (n0 : qn = none → nb = false) (o0 : qo = none → ob = false)
    (hT : ∀ p, qt = some p → ∀ n, Calls Yba.prog 23 #[.pointer (some p), .int .i32 r] (w.drewN n) fun e w' => e = .returned (.bool tb) ∧ ∃ m, w' = w.drewN m)
    (hN : ∀ p, qn = some p → ∀ n, Calls Yba.prog 23 #[.pointer (some p), .int .i32 r] (w.drewN n) fun e w' => e = .returned (.bool (!nb)) ∧ ∃ m, w' = w.drewN m)
    (hO : ∀ p, qo = some p → ∀ n, Calls Yba.prog 22 #[.pointer (some p), .int .i32 r] (w.drewN n) fun e w' => e = .returned (.bool ob) ∧ ∃ m, w' = w.drewN m) :
    Calls Yba.prog 13 #[.pointer (some ⟨C, 0, none⟩), .int .i32 r] w fun e w' => e = .returned (.bool ((inRs R r || tb || nb || ob) != neg)) ∧ ∃ m, w' = w.drewN m := by
  obtain ⟨ao, cap, rfl, hc⟩ := hR
  obtain ⟨n, hN'⟩ : ∃ n, n = R.length := ⟨_, rfl⟩
  rw [← hN'] at hc hlen c1
  have HN : Hid (n = R.length) := hN'
  have HC : Hid (0 < n → ∃ g, ao = some ⟨g, 0, none⟩ ∧ g < w.heap.size ∧ ∀ i, i < n → w.cell? ⟨g, i * 2, none⟩ = some (.int .i32 (rlo R i)) ∧ w.cell? ⟨g, i * 2 + 1, none⟩ = some (.int .i32 (rhi R i))) := hc
  have HT : Hid _ := hT
  have HNN : Hid _ := hN
  have HOO : Hid _ := hO
  have H0 : Hid _ := And.intro t0 (And.intro n0 o0)
  obtain ⟨ta, nT, cT, rfl, stx⟩ := st
  obtain ⟨na, nN, cN, rfl, snx⟩ := sn
  obtain ⟨oa, nO, cO, rfl, sox⟩ := so
  have HST : Hid _ := stx
  have HSN : Hid _ := snx
  have HSO : Hid _ := sox
  have lT : nT ≤ 1 := by omega
  have lN : nN ≤ 1 := by omega
  have lO : nO ≤ 1 := by omega
  clear hN' hc hT hN hO t0 n0 o0 stx snx sox
  go_enter Yba.func13, Yba.ntmps13
  go_wp2
  go_quiet (fail)
  go_wp2
  go_loopw [5, 6] (fun i j wr => ∃ a b : Nat, a ≤ b ∧ b ≤ n ∧ i = .int .i64 a ∧ j = .int .i64 b ∧ (∀ x, x < a → rhi R x < r) ∧ (∀ x, b ≤ x → x < n → r ≤ rhi R x) ∧ ∃ m, wr = w.drewN m) (fun i j _ => (intOf j).toNat - (intOf i).toNat)
  case atStart => exact ⟨0, n, Nat.zero_le _, Nat.le_refl _, rfl, rfl, fun x hx => absurd hx (by omega), fun x h1 h2 => absurd h2 (by omega), _, rfl⟩
  case round =>
    obtain ⟨a, b, hab, hbn, rfl, rfl, h1, h2, m, rfl⟩ := hrel
    have H1 : Hid (∀ x, x < a → rhi R x < r) := h1
    have H2 : Hid (∀ x, b ≤ x → x < n → r ≤ rhi R x) := h2
    clear h1 h2
    by_cases hlt : a < b
    · have hm : (a + b) / 2 < n := by omega
      obtain ⟨g, rfl, hg, hc⟩ := HC.out (by omega)
      have ch := (hc _ hm).2
      obtain ⟨hi, hhi⟩ : ∃ hi, hi = rhi R ((a + b) / 2) := ⟨_, rfl⟩
      rw [← hhi] at ch
      clear hc
      by_cases ht : hi < r
      · have R1 : Hid (∀ x, x < (a + b) / 2 + 1 → rhi R x < r) := fun x hx => by
          rcases Nat.lt_or_ge x ((a + b) / 2) with h | h
          · have e1 := (hasc x (by rw [← HN.out]; omega)).2 _ h (by rw [← HN.out]; exact hm)
            have e2 := (hasc _ (by rw [← HN.out]; exact hm)).1
            omega
          · have : x = (a + b) / 2 := by omega
            rw [this]; omega
        clear hhi
        go_wp2
        go_roundw
        case rel => exact ⟨(a + b) / 2 + 1, b, by omega, hbn, by go_num, rfl, R1.out, H2.out, m, rfl⟩
        case measure => simp [intOf]; omega
      · have R2 : Hid (∀ x, (a + b) / 2 ≤ x → x < n → r ≤ rhi R x) := fun x hx hxn => by
          rcases Nat.lt_or_ge ((a + b) / 2) x with h | h
          · have e1 := (hasc _ (by rw [← HN.out]; exact hm)).2 _ h (by rw [← HN.out]; exact hxn)
            have e2 := (hasc x (by rw [← HN.out]; exact hxn)).1
            omega
          · have : x = (a + b) / 2 := by omega
            rw [this]; omega
        clear hhi
        go_wp2
        go_roundw
        case rel => exact ⟨a, (a + b) / 2, by omega, by omega, rfl, by go_num, H1.out, R2.out, m, rfl⟩
        case measure => simp [intOf]; omega
    · have e : a = b := by omega
      subst e
      have HX : Hid (inRs R r = (decide (a < n) && decide (rlo R a ≤ r))) := by
        have := inRs_at hasc (r := r) (p := a) (by rw [← HN.out]; exact hbn) H1.out (by rw [← HN.out]; exact H2.out)
        rw [← HN.out] at this; exact this
      clear H1 H2 hasc
      by_cases han : a < n
      case' pos =>
        obtain ⟨g, rfl, hg, hc⟩ := HC.out (by omega)
        have cl := (hc _ han).1
        obtain ⟨lo, hlo⟩ : ∃ lo, lo = rlo R a := ⟨_, rfl⟩
        rw [← hlo] at cl
        have HX' : Hid (inRs R r = decide (lo ≤ r)) := by show _ = _; rw [HX.out, hlo]; simp [han]
        clear hlo hc HX
        go_wp2
      case' neg =>
        have hand : decide ((a : Int) < (n : Int)) = false := by simp; omega
        have HX' : Hid (inRs R r = false) := by show _ = _; rw [HX.out]; simp [han]
        clear HX
        go_wp2
      all_goals
        go_loopw [8, 66] (fun x i ws => ∃ k : Nat, k ≤ nT ∧ i = .int .i64 k ∧ x = .bool (bb k (inRs R r) tb) ∧ ∃ m, ws = w.drewN m) (fun _ i _ => nT - (intOf i).toNat)
        case atStart => exact ⟨0, Nat.zero_le _, rfl, by rw [bb, if_pos rfl, HX'.out], m, rfl⟩
        case round =>
          clear m
          obtain ⟨k, hk, rfl, rfl, m, rfl⟩ := hrel
          by_cases hkT : k < nT
          · have e : k = 0 := by omega
            subst e
            have hst : ∃ t p, ta = some ⟨t, 0, none⟩ ∧ w.cell? ⟨t, 0, none⟩ = some (.pointer (some p)) ∧ qt = some p := by
              rcases HST.out with ⟨h, -⟩ | ⟨-, h⟩
              · omega
              · exact h
            obtain ⟨t, p, rfl, cp, hq⟩ := hst
            have HTp := HT.out p hq
            have HTh : Hid _ := HTp
            clear HTp hq
            rw [show bb 0 (inRs R r) tb = inRs R r from rfl]
            cases hx : inRs R r with
            | true =>
              go_wp2
              go_roundw
              case rel => exact ⟨1, by omega, by go_num, rfl, m, rfl⟩
              case measure => simp [intOf]; omega
            | false =>
              go_wp2_with (go_at_call 23; refine (HTh.out _).mono ?_; rintro e w' ⟨rfl, m', rfl⟩)
              go_roundw
              case rel => exact ⟨1, by omega, by go_num, by simp [bb], m', rfl⟩
              case measure => simp [intOf]; omega
          · obtain ⟨x1, hx1⟩ : ∃ x1, x1 = bb k (inRs R r) tb := ⟨_, rfl⟩
            rw [← hx1]
            have HE1 : Hid (x1 = (inRs R r || tb)) := by
              show _ = _
              rw [hx1]
              refine bb_end (q := qt) ?_ H0.out.1
              rcases HST.out with ⟨h, h'⟩ | ⟨h, -⟩
              · exact .inl ⟨by omega, h'⟩
              · exact .inr (by omega)
            clear hx1 HX'
            go_wp2
            go_loopw [8, 82] (fun x i ws => ∃ k : Nat, k ≤ nN ∧ i = .int .i64 k ∧ x = .bool (bb k x1 nb) ∧ ∃ m, ws = w.drewN m) (fun _ i _ => nN - (intOf i).toNat)
            case atStart => exact ⟨0, Nat.zero_le _, rfl, rfl, m, rfl⟩
            case round =>
              clear m
              obtain ⟨k2, hk2, rfl, rfl, m, rfl⟩ := hrel
              by_cases hkN : k2 < nN
              · have e : k2 = 0 := by omega
                subst e
                have hst : ∃ t p, na = some ⟨t, 0, none⟩ ∧ w.cell? ⟨t, 0, none⟩ = some (.pointer (some p)) ∧ qn = some p := by
                  rcases HSN.out with ⟨h, -⟩ | ⟨-, h⟩
                  · omega
                  · exact h
                obtain ⟨t, p, rfl, cp, hq⟩ := hst
                have HTp := HNN.out p hq
                have HTh : Hid _ := HTp
                clear HTp hq
                rw [show bb 0 x1 nb = x1 from rfl]
                cases x1 with
                | true =>
                  go_wp2
                  go_roundw
                  case rel => exact ⟨1, by omega, by go_num, rfl, m, rfl⟩
                  case measure => simp [intOf]; omega
                | false =>
                  go_wp2_with (go_at_call 23; refine (HTh.out _).mono ?_; rintro e w' ⟨rfl, m', rfl⟩)
                  go_roundw
                  case rel => exact ⟨1, by omega, by go_num, by simp [bb], m', rfl⟩
                  case measure => simp [intOf]; omega
              · obtain ⟨x2, hx2⟩ : ∃ x2, x2 = bb k2 x1 nb := ⟨_, rfl⟩
                rw [← hx2]
                have HE2 : Hid (x2 = (x1 || nb)) := by
                  show _ = _
                  rw [hx2]
                  refine bb_end (q := qn) ?_ H0.out.2.1
                  rcases HSN.out with ⟨h, h'⟩ | ⟨h, -⟩
                  · exact .inl ⟨by omega, h'⟩
                  · exact .inr (by omega)
                clear hx2
                go_wp2
                go_loopw [8, 99] (fun x i ws => ∃ k : Nat, k ≤ nO ∧ i = .int .i64 k ∧ x = .bool (bb k x2 ob) ∧ ∃ m, ws = w.drewN m) (fun _ i _ => nO - (intOf i).toNat)
                case atStart => exact ⟨0, Nat.zero_le _, rfl, rfl, m, rfl⟩
                case round =>
                  clear m
                  obtain ⟨k3, hk3, rfl, rfl, m, rfl⟩ := hrel
                  by_cases hkO : k3 < nO
                  · have e : k3 = 0 := by omega
                    subst e
                    have hst : ∃ t p, oa = some ⟨t, 0, none⟩ ∧ w.cell? ⟨t, 0, none⟩ = some (.pointer (some p)) ∧ qo = some p := by
                      rcases HSO.out with ⟨h, -⟩ | ⟨-, h⟩
                      · omega
                      · exact h
                    obtain ⟨t, p, rfl, cp, hq⟩ := hst
                    have HTp := HOO.out p hq
                    have HTh : Hid _ := HTp
                    clear HTp hq
                    rw [show bb 0 x2 ob = x2 from rfl]
                    cases x2 with
                    | true =>
                      go_wp2
                      go_roundw
                      case rel => exact ⟨1, by omega, by go_num, rfl, m, rfl⟩
                      case measure => simp [intOf]; omega
                    | false =>
                      go_wp2_with (go_at_call 22; refine (HTh.out _).mono ?_; rintro e w' ⟨rfl, m', rfl⟩)
                      go_roundw
                      case rel => exact ⟨1, by omega, by go_num, by simp [bb], m', rfl⟩
                      case measure => simp [intOf]; omega
                  · obtain ⟨x3, hx3⟩ : ∃ x3, x3 = bb k3 x2 ob := ⟨_, rfl⟩
                    rw [← hx3]
                    have HE3 : Hid (x3 = (x2 || ob)) := by
                      show _ = _
                      rw [hx3]
                      refine bb_end (q := qo) ?_ H0.out.2.2
                      rcases HSO.out with ⟨h, h'⟩ | ⟨h, -⟩
                      · exact .inl ⟨by omega, h'⟩
                      · exact .inr (by omega)
                    clear hx3
                    go_wp2
                    go_ret
                    exact ⟨by rw [← HE1.out, ← HE2.out, ← HE3.out]; rfl, m, rfl⟩
end Go.Proofs.Ybulkatic
