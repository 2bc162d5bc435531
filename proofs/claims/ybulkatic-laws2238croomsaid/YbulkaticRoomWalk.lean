import Derived.Test.YbulkaticLawC
namespace Go.Proofs.Ybulkatic
open Go.RowKit

theorem uni_pos (S : List (ByteArray × ByteArray)) (h : 0 < S.length) : 0 < (uni S).length := by
  have := (uni_first S 0 h (fun i hi => absurd hi (by omega)) S.length h (Nat.le_refl _)).1
  rw [List.take_of_length_le (Nat.le_refl _)] at this
  omega

theorem getD_right {U : List (ByteArray × ByteArray)} {r i : Nat} (h : U.length ≤ i) : (U ++ List.replicate r zp).getD i zp = zp := by
  rw [List.getD_eq_getElem?_getD, List.getElem?_append_right h, List.getElem?_replicate]
  split <;> rfl

theorem eq_self (w : World) (p : Addr) (d : Nat) : (Op.equalIn (d + 1) 65 (.pointer (some p)) (.pointer (some p))).run Yba.prog w = .ok true w := by
  have hs := Yba.sizeOf63 w
  simp [Op.equalIn, run_underlying Yba.underlying65, hs, sameAddr]
theorem neq_self (w : World) (p : Addr) : (binOp .neq 65 (.pointer (some p)) (.pointer (some p))).run Yba.prog w = .ok (.bool false) w := by
  simp only [binOp]
  simp [Op.equal, Op.maxDepth, eq_self w p 9999]

set_option maxRecDepth 100000 in
theorem room_any (a : Option Addr) (n cap : Nat) (S : List (ByteArray × ByteArray)) (w : World) (h : IsItems w a n S) (hn63 : n ≤ maxLen) (hsz : ∀ i, i < n → (S.getD i zp).1.size ≤ maxLen) :
    Calls Yba.prog 8 #[.slice a n cap] w fun e w' => e = .returned (.bool true) ∧ Below w.heap.size w w' := by
  unfold maxLen at hn63
  by_cases hbig : 1024 < n
  · have hb' : (1024 : Int) < (n : Int) := by omega
    go_enter Yba.func8, Yba.ntmps8
    go_wp2
    go_ret
    exact ⟨rfl, Below.refl _ _⟩
  · have hb' : ¬ (1024 : Int) < (n : Int) := by omega
    have hb'' : decide ((1024 : Int) < (n : Int)) = false := by simp; omega
    have q54 : ∀ (w : World) (a : Option Addr) (n c : Nat), (binOp .neq 54 (.slice a n c) (.slice none 0 0)).run Yba.prog w = .ok (.bool (!a.isNone)) w := fun w a n c => run_neq_slice_nil_any w _ _ a n c 0 0 Yba.underlying54
    go_enter Yba.func8, Yba.ntmps8
    go_wp2_with fail
    refine (build_any a n cap S w h (by omega)).mono ?_
    rintro e w1 ⟨rfl, hm1, hb1, hs1⟩
    have U := uniq_any w.heap.size n S w1 h.1 (by omega) hm1 hsz
    go_wp2_with fail
    refine U.mono ?_
    rintro e w2 ⟨rfl, hm2, ho2⟩
    have hb2 : Below w.heap.size w w2 := hb1.trans (ho2.below (Nat.le_refl _) hb1.size)
    clear U hm1 hb1 hs1 ho2
    obtain ⟨K, hK⟩ : ∃ K, K = (uni S).length := ⟨_, rfl⟩
    rw [← hK]
    have hKn : K ≤ n := by rw [hK]; have := uni_len S n (by rw [h.1]; exact Nat.le_refl _); rw [List.take_of_length_le (by rw [h.1]; exact Nat.le_refl _)] at this; exact this
    have hK0 : 0 < n → 0 < K := fun hp => by rw [hK]; exact uni_pos S (by rw [h.1]; exact hp)
    have HK : Hid (K = (uni S).length) := hK
    have HM : Hid (IsMem w2 w.heap.size (uni S ++ List.replicate (n - (uni S).length) zp)) := hm2
    have HO : Hid (Once (uni S)) := by
      have := once_uni S n (by rw [h.1]; exact Nat.le_refl _)
      rw [List.take_of_length_le (by rw [h.1]; exact Nat.le_refl _)] at this; exact this
    clear hK hm2
    have q65 : ∀ (w' : World), (binOp .neq 65 (.pointer (some ⟨w.heap.size, 0, none⟩)) (.pointer (some ⟨w.heap.size, 0, none⟩))).run Yba.prog w' = .ok (.bool false) w' := fun w' => neq_self w' _
    have hrest : (n = 0 ∧ K = 0) ∨ (0 < n ∧ 0 < K) := by
      rcases Nat.eq_zero_or_pos n with h0 | h0
      · exact .inl ⟨h0, by omega⟩
      · exact .inr ⟨h0, hK0 h0⟩
    clear hK0
    rcases hrest with ⟨hn0, hK1⟩ | ⟨hn0, hK1⟩
    · have p1 : ¬ 0 < n := by omega
      have p2 : decide (0 < K) = false := by simp; omega
      have p3 : ¬ 0 < K := by omega
      have p4 : n ≤ 0 := by omega
      have p5 : (K : Int) ≤ (n : Int) := by omega
      have p6 : n ≤ K := by omega
      clear hn0 hK1
      go_wp2
      go_quiet (fail)
      go_wp2
      refine wp_loop_rounds 1 ?_; rw [rounds_succ]
      go_wp2
      refine wp_loop_rounds 1 ?_; rw [rounds_succ]
      go_wp2
      go_ret
      exact ⟨rfl, below_drewN hb2 _⟩
    · have p1 : (0 : Int) < (n : Int) := by omega
      have p2 : (0 : Int) < (K : Int) := by omega
      have p3 : ((K : Int) == 0) = false := by simp; omega
      have p5 : (K : Int) ≤ (n : Int) := by omega
      go_wp2
      go_quiet (fail)
      go_wp2
      go_loopw [5] (fun i wr => ∃ x : Nat, x ≤ K ∧ i = .int .i64 x ∧ ∃ m, wr = w2.drewN m) (fun i _ => K - (intOf i).toNat)
      case atStart => exact ⟨0, Nat.zero_le _, rfl, _, rfl⟩
      case round =>
        obtain ⟨x, hx, rfl, m, rfl⟩ := hrel
        by_cases hlt : x < K
        · obtain ⟨nx, hnx⟩ : ∃ nx, nx = ((uni S).getD x zp).1 := ⟨_, rfl⟩
          have cx : w2.cell? ⟨w.heap.size, x * 4, none⟩ = some (.string nx) := by
            rw [hnx, ← getD_left (V := List.replicate (n - (uni S).length) zp) (by rw [← HK.out]; exact hlt)]
            exact HM.out.name (by rw [List.length_append, ← HK.out]; omega)
          have Hnx : Hid (nx = ((uni S).getD x zp).1) := hnx
          clear hnx
          have d1 : (0 : Int) ≤ (x : Int) := by omega
          have d2 : (x : Int) < (K : Int) := by omega
          go_wp2
          go_loopw [6] (fun i wr => ∃ y : Nat, x < y ∧ y ≤ K ∧ i = .int .i64 y ∧ ∃ m, wr = w2.drewN m) (fun i _ => K - (intOf i).toNat)
          case atStart => exact ⟨x + 1, by omega, by omega, by go_num, m, rfl⟩
          case round =>
            clear m
            obtain ⟨y, hxy, hy, rfl, m, rfl⟩ := hrel
            by_cases hyK : y < K
            · obtain ⟨ny, hny⟩ : ∃ ny, ny = ((uni S).getD y zp).1 := ⟨_, rfl⟩
              have cy : w2.cell? ⟨w.heap.size, y * 4, none⟩ = some (.string ny) := by
                rw [hny, ← getD_left (V := List.replicate (n - (uni S).length) zp) (by rw [← HK.out]; exact hyK)]
                exact HM.out.name (by rw [List.length_append, ← HK.out]; omega)
              have hne : (nx.toList == ny.toList) = false := by
                have := HO.out x y hxy (by rw [← HK.out]; exact hyK)
                unfold nmAt at this
                rw [← Hnx.out, ← hny] at this
                simpa using this
              clear hny
              have e1 : (0 : Int) ≤ (y : Int) := by omega
              have e2 : (y : Int) < (K : Int) := by omega
              go_wp2
              go_quiet (fail)
              go_wp2
              go_roundw
              case rel => exact ⟨y + 1, by omega, by omega, by go_num, _, rfl⟩
              case measure => simp [intOf]; omega
            · go_wp2
              go_roundw
              case rel => exact ⟨x + 1, by omega, by go_num, m, rfl⟩
              case measure => simp [intOf]; omega
        · obtain rfl : K = x := by omega
          go_wp2
          go_loopw [7] (fun i wr => ∃ z : Nat, K ≤ z ∧ z ≤ n ∧ i = .int .i64 z ∧ wr = w2.drewN m) (fun i _ => n - (intOf i).toNat)
          case atStart => exact ⟨K, Nat.le_refl _, hKn, rfl, rfl⟩
          case round =>
            obtain ⟨z, hKz, hz, rfl, rfl⟩ := hrel
            by_cases hzn : z < n
            · have hel := getD_right (U := uni S) (r := n - (uni S).length) (i := z) (by rw [← HK.out]; exact hKz)
              have hzl : z < (uni S ++ List.replicate (n - (uni S).length) zp).length := by rw [List.length_append, List.length_replicate, ← HK.out]; omega
              have r1 := HM.out.name hzl
              have r2 := HM.out.kind hzl
              have r3 := HM.out.text hzl
              have r4 := HM.out.chil hzl
              rw [hel] at r1 r3
              have r1' : w2.cell? ⟨w.heap.size, z * 4, none⟩ = some (.string ⟨#[]⟩) := r1
              have r3' : w2.cell? ⟨w.heap.size, z * 4 + 1 + 1, none⟩ = some (.string ⟨#[]⟩) := r3
              have r4' : w2.cell? ⟨w.heap.size, z * 4 + 1 + 2, none⟩ = some (.slice none 0 0) := r4
              have e1 : (0 : Int) ≤ (z : Int) := by omega
              have e2 : (z : Int) < (n : Int) := by omega
              clear hel hzl r1 r3 r4
              go_wp2
              go_roundw
              case rel => exact ⟨z + 1, by omega, by omega, by go_num, trivial⟩
              case measure => simp [intOf]; omega
            · go_wp2
              go_ret
              exact ⟨rfl, below_drewN hb2 m⟩
end Go.Proofs.Ybulkatic
