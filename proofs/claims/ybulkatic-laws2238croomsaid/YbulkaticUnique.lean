import Derived.Test.YbulkaticBuild
import Derived.Test.YbulkaticIdx
namespace Go.Proofs.Ybulkatic
open Go.RowKit

theorem Yba.size61 : (Yba.prog.info? 61).map (·.size) = some 3 := by kernel_rfl
theorem vals_one (t : ByteArray) : (vals t).toArray.all (·.oneCell') = true := by rw [Array.all_eq_true_iff_forall_mem]; intro u hu; simp [vals] at hu; rcases hu with rfl | rfl | rfl <;> rfl
theorem mem_one (p : ByteArray × ByteArray) : (mem p).toArray.all (·.oneCell') = true := by rw [Array.all_eq_true_iff_forall_mem]; intro u hu; simp [mem] at hu; rcases hu with rfl | rfl | rfl | rfl <;> rfl

theorem run_put {P : Program} (w : World) (M o : Nat) (vs : List Value) (h : w.there M o vs.length) (h1 : vs.toArray.all (·.oneCell') = true) : (storeCells ⟨M, o, none⟩ vs).run P w = .ok () (w.setCells M o vs) :=
  run_storeCells_cells (P := P) M o vs 0 w (fun j hj => by simpa using (h j hj).1) (fun j hj => by simpa using (h j hj).2) (fun v hv => (Array.all_eq_true_iff_forall_mem.1 h1) v (by simpa using hv))

/-- The built-in 'clear' at members[k:]. -/
theorem run_clear (w : World) (M k n : Nat) (hk : k < n) (ht : w.there M (k * 4) ((n - k) * 4)) :
    (Builtin.clear_ #[54] 0 #[.slice (some ⟨M, k * 4, none⟩) (n - k) (n - k)]).run Yba.prog w = .ok (.tuple #[]) (w.setCells M (k * 4) (zcs (n - k))) := by
  obtain ⟨i0, hi0, hz0, hz1, hz2⟩ := info_parts Yba.info63
  have hz : (zeroValue 63).run Yba.prog w = .ok (.agg #[.string ⟨#[]⟩, .int .u8 0, .string ⟨#[]⟩, .slice none 0 0]) w := by simp [zeroValue, typeInfo, hi0, hz0]
  have hcs : (Builtin.zeroCells (Value.agg #[.string ⟨#[]⟩, .int .u8 0, .string ⟨#[]⟩, .slice none 0 0]).cells (n - k)).toList = zcs (n - k) := by
    apply List.ext_getElem?
    intro i
    by_cases hi : i < (n - k) * 4
    · have h4 : i % 4 < 4 := Nat.mod_lt _ (by omega)
      have hv := zcs_at (n - k) (i / 4) (i % 4) ((mem zp)[i % 4]'(by simp [mem]; omega)) (by omega) (List.getElem?_eq_getElem _)
      rw [show i / 4 * 4 + i % 4 = i by omega] at hv
      rw [hv]
      have hsz : (Value.agg #[.string ⟨#[]⟩, .int .u8 0, .string ⟨#[]⟩, .slice none 0 0]).cells.size = 4 := rfl
      simp only [Builtin.zeroCells, hsz, Array.getElem?_toList, Array.getElem?_map, Array.getElem?_range, hi, if_true, Option.map_some]
      have : i % 4 = 0 ∨ i % 4 = 1 ∨ i % 4 = 2 ∨ i % 4 = 3 := by omega
      rcases this with e | e | e | e <;> simp [e, mem, zp, Value.cells]
    · rw [List.getElem?_eq_none (by simp [Builtin.zeroCells, Value.cells]; omega), List.getElem?_eq_none (by rw [zcs_len]; omega)]
  have h1 : (zcs (n - k)).toArray.all (·.oneCell') = true := by
    rw [Array.all_eq_true_iff_forall_mem]
    intro u hu
    simp only [zcs, List.mem_toArray, List.mem_flatMap] at hu
    obtain ⟨p, -, hp⟩ := hu
    exact (Array.all_eq_true_iff_forall_mem.1 (mem_one p)) u (by simpa using hp)
  have hst := run_put (P := Yba.prog) w M (k * 4) (zcs (n - k)) (by rw [zcs_len]; exact ht) h1
  obtain ⟨d, hd⟩ : ∃ d, n - k = d + 1 := ⟨n - k - 1, by omega⟩
  rw [hd] at hcs hst ⊢
  simp [Builtin.clear_, run_underlying Yba.underlying54, hz, hcs, hst]

theorem run_clear0 (w : World) (M o : Nat) : (Builtin.clear_ #[54] 0 #[.slice (some ⟨M, o, none⟩) 0 0]).run Yba.prog w = .ok (.tuple #[]) w := by
  simp [Builtin.clear_, run_underlying Yba.underlying54]

theorem PInv.done {S X : List (ByteArray × ByteArray)} {n kept : Nat} (h : PInv S X n kept) (hn : S.length = n) : X.take kept = uni S ∧ kept = (uni S).length := by
  obtain ⟨h1, h2, h3, -, -⟩ := h
  have e : S.take n = S := List.take_of_length_le (by omega)
  rw [e] at h2 h3
  exact ⟨h2, h3⟩

set_option maxRecDepth 100000 in
theorem few_any (M n : Nat) (S : List (ByteArray × ByteArray)) (w : World) (hS : S.length = n) (hn : n ≤ 16) (hm : IsMem w M S) :
    Calls Yba.prog 18 #[.slice (some ⟨M, 0, none⟩) n n] w fun e w' => e = .returned (.slice (some ⟨M, 0, none⟩) (uni S).length n) ∧ IsMem w' M (uni S ++ List.replicate (n - (uni S).length) zp) ∧ Only M w w' := by
  have q78 : ∀ (w : World) (r : Option Nat), (binOp .eql 78 (.map r) (.map none)).run Yba.prog w = .ok (.bool r.isNone) w := fun w r => run_eql_map_nil w _ _ _ r Yba.underlying78
  have HS : Hid (S.length = n) := hS
  clear hS
  go_enter Yba.func18, Yba.ntmps18
  go_wp2
  go_loopw [4, 17] (fun kp i wr => ∃ j kept : Nat, j ≤ n ∧ i = .int .i64 j ∧ kp = .int .i64 kept ∧ ∃ X, PInv S X j kept ∧ IsMem wr M X ∧ Only M w wr) (fun _ i _ => n - (intOf i).toNat)
  case atStart => exact ⟨0, 0, Nat.zero_le _, rfl, rfl, S, PInv.start S, hm, Only.refl _ _⟩
  case round =>
    obtain ⟨j, kept, hj, rfl, rfl, X, hP, hX, hO⟩ := hrel
    have HP : Hid (PInv S X j kept) := hP
    have HX : Hid (IsMem wr M X) := hX
    have HO : Hid (Only M w wr) := hO
    have HL : Hid (X.length = n) := hP.1.trans HS.out
    have hkj := hP.2.2.2.1
    clear hP hX hO
    by_cases hlt : j < n
    · obtain ⟨a, ha⟩ : ∃ a, a = (X.getD j zp).1 := ⟨_, rfl⟩
      have cj : wr.cell? ⟨M, j * 4, none⟩ = some (.string a) := by rw [ha]; exact HX.out.name (by rw [HL.out]; exact hlt)
      have Ha : Hid (a = (X.getD j zp).1) := ha
      clear ha
      go_wp2
      go_loopw [6] (fun i ws => ∃ x : Nat, x ≤ kept ∧ i = .int .i64 x ∧ (∀ y, y < x → nmAt X y ≠ nmAt X j) ∧ ∃ m, ws = wr.drewN m) (fun i _ => kept - (intOf i).toNat)
      case atStart => exact ⟨0, Nat.zero_le _, rfl, fun y hy => absurd hy (by omega), 0, rfl⟩
      case round =>
        obtain ⟨x, hx, rfl, hbef, m, rfl⟩ := hrel
        have HB : Hid (∀ y, y < x → nmAt X y ≠ nmAt X j) := hbef
        clear hbef
        by_cases hxk : x < kept
        · obtain ⟨c, hc⟩ : ∃ c, c = (X.getD x zp).1 := ⟨_, rfl⟩
          have cx : wr.cell? ⟨M, x * 4, none⟩ = some (.string c) := by rw [hc]; exact HX.out.name (by rw [HL.out]; omega)
          have Hc : Hid (c = (X.getD x zp).1) := hc
          clear hc
          have d1 : (x : Int) < (kept : Int) := by omega
          have d2 : (0 : Int) ≤ (x : Int) := by omega
          have d3 : (x : Int) < (n : Int) := by omega
          have d4 : (0 : Int) ≤ (j : Int) := by omega
          have d5 : (j : Int) < (n : Int) := by omega
          cases hname : (c.toList == a.toList) with
          | false =>
            go_wp2
            go_quiet (fail)
            go_wp2
            go_roundw
            case rel =>
              refine ⟨x + 1, by omega, by go_num, fun y hy => ?_, _, rfl⟩
              by_cases e : y = x
              · subst e
                unfold nmAt
                rw [← Hc.out, ← Ha.out]
                simpa using hname
              · exact HB.out y (by omega)
            case measure => simp [intOf]; omega
          | true =>
            have hpos : pos (uni (S.take j)) (nmAt S j) = x := by
              have hP := HP.out
              refine pos_of (fun y hy he => ?_) (by rw [← hP.2.2.1]; exact hxk) ?_
              · rw [← hP.nm (by rw [HS.out]; omega) (by omega), ← hP.nm_j] at he
                exact HB.out y hy he
              · rw [← hP.nm (by rw [HS.out]; omega) hxk, ← hP.nm_j]
                unfold nmAt
                rw [← Hc.out, ← Ha.out]
                simpa using hname
            obtain ⟨X', hX'⟩ : ∃ X', X' = X.set x ((X.getD x zp).1, (X.getD j zp).2) := ⟨_, rfl⟩
            have HR : Hid (PInv S X' (j + 1) kept) := by rw [hX']; exact HP.out.hit (by rw [HS.out]; exact hlt) hxk hpos
            obtain ⟨t, ht⟩ : ∃ t, t = (X.getD j zp).2 := ⟨_, rfl⟩
            have HV : ∀ m q, ((wr.drewN m).drewN q).rangeAt M (j * 4 + 1) (vals t) := fun m q => by rw [ht]; exact ((HX.out.drewN m).drewN q).val (by rw [HL.out]; exact hlt)
            have HT : ∀ m q, ((wr.drewN m).drewN q).there M (x * 4 + 1) (vals t).toArray.size := fun m q => ((HX.out.drewN m).drewN q).thereVal (by rw [HL.out]; omega)
            have HM : ∀ m q, IsMem (((wr.drewN m).drewN q).setCells M (x * 4 + 1) (vals t)) M X' := fun m q => by rw [hX', ht]; exact ((HX.out.drewN m).drewN q).setVal (by rw [HL.out]; omega) _
            have HQ : ∀ m q, Only M w (((wr.drewN m).drewN q).setCells M (x * 4 + 1) (vals t)) := fun m q => ((HO.out.drewN m).drewN q).setCells _ _
            clear hpos hX' ht
            go_wp2
            go_quiet (fail)
            generalize hWD : (wr.drewN m).drewN _ = WD
            have V1 : WD.rangeAt M (j * 4 + 1) (vals t) := by rw [← hWD]; exact HV _ _
            have T1 : WD.there M (x * 4 + 1) (vals t).toArray.size := by rw [← hWD]; exact HT _ _
            have M1 : IsMem (WD.setCells M (x * 4 + 1) (vals t)) M X' := by rw [← hWD]; exact HM _ _
            have Q1 : Only M w (WD.setCells M (x * 4 + 1) (vals t)) := by rw [← hWD]; exact HQ _ _
            clear hWD HV HT HM HQ cj cx
            go_wp2_with (first
              | ((with_reducible refine at_load 61 ?_); refine wpList_load_mid rfl 61 _ rfl M _ rfl (vals t) _ V1 Yba.underlying61 rfl Yba.size61 ?_)
              | ((with_reducible refine at_store 61 ?_); refine wpList_store_mid rfl 61 _ _ rfl M _ (vals t).toArray rfl rfl T1 Yba.size61 (vals_one _) ?_))
            go_roundw
            case rel => exact ⟨j + 1, kept, by omega, by go_num, rfl, X', HR.out, M1, Q1⟩
            case measure => simp [intOf]; omega
        · obtain rfl : x = kept := by omega
          have hpos : ¬ pos (uni (S.take j)) (nmAt S j) < x := by
            have hP := HP.out
            intro hh
            have h1 := pos_hit (U := uni (S.take j)) (x := nmAt S j) (by rw [← hP.2.2.1]; exact hh)
            rw [← hP.nm (by rw [HS.out]; omega) hh] at h1
            exact HB.out _ hh (h1.trans hP.nm_j.symm)
          obtain ⟨X', hX'⟩ : ∃ X', X' = X.set x (X.getD j zp) := ⟨_, rfl⟩
          have HR : Hid (PInv S X' (j + 1) (x + 1)) := by rw [hX']; exact HP.out.miss (by rw [HS.out]; exact hlt) hpos
          obtain ⟨p, hp⟩ : ∃ p, p = X.getD j zp := ⟨_, rfl⟩
          have HV : ∀ m q, ((wr.drewN m).drewN q).rangeAt M (j * 4) (mem p) := fun m q => by rw [hp]; exact ((HX.out.drewN m).drewN q).whole (by rw [HL.out]; exact hlt)
          have HT : ∀ m q, ((wr.drewN m).drewN q).there M (x * 4) (mem p).toArray.size := fun m q => ((HX.out.drewN m).drewN q).thereAll (by rw [HL.out]; omega)
          have HM : ∀ m q, IsMem (((wr.drewN m).drewN q).setCells M (x * 4) (mem p)) M X' := fun m q => by rw [hX', hp]; exact ((HX.out.drewN m).drewN q).setAll (by rw [HL.out]; omega) _
          have HQ : ∀ m q, Only M w (((wr.drewN m).drewN q).setCells M (x * 4) (mem p)) := fun m q => ((HO.out.drewN m).drewN q).setCells _ _
          have d0 : decide ((x : Int) < (x : Int)) = false := by simp
          by_cases hkj' : x = j
          · subst hkj'
            have HE : Hid (X' = X) := by show X' = X; rw [hX']; exact HP.out.same (by rw [HS.out]; exact hlt)
            clear hpos hX' hp HV HT HM HQ
            go_wp2
            go_quiet (fail)
            go_wp2
            go_roundw
            case rel => exact ⟨x + 1, x + 1, by omega, by go_num, by go_num, X', HR.out, by rw [HE.out]; exact HX.out.drewN _, HO.out.drewN _⟩
            case measure => simp [intOf]; omega
          · clear hpos hX' hp
            go_wp2
            go_quiet (fail)
            generalize hWD : (wr.drewN m).drewN _ = WD
            have V1 : WD.rangeAt M (j * 4) (mem p) := by rw [← hWD]; exact HV _ _
            have T1 : WD.there M (x * 4) (mem p).toArray.size := by rw [← hWD]; exact HT _ _
            have M1 : IsMem (WD.setCells M (x * 4) (mem p)) M X' := by rw [← hWD]; exact HM _ _
            have Q1 : Only M w (WD.setCells M (x * 4) (mem p)) := by rw [← hWD]; exact HQ _ _
            clear hWD HV HT HM HQ cj
            go_wp2_with (first
              | ((with_reducible refine at_load 63 ?_); refine wpList_load_mid rfl 63 _ rfl M _ rfl (mem p) _ V1 Yba.underlying63 rfl Yba.size63 ?_)
              | ((with_reducible refine at_store 63 ?_); refine wpList_store_mid rfl 63 _ _ rfl M _ (mem p).toArray rfl rfl T1 Yba.size63 (mem_one _) ?_))
            go_roundw
            case rel => exact ⟨j + 1, x + 1, by omega, by go_num, by go_num, X', HR.out, M1, Q1⟩
            case measure => simp [intOf]; omega
    · obtain rfl : j = n := by omega
      obtain ⟨e1, e2⟩ := HP.out.done HS.out
      have HE : Hid (X.take kept = uni S ∧ kept = (uni S).length) := ⟨e1, e2⟩
      clear e1 e2
      by_cases hkn : kept < j
      · have hC := run_clear wr M kept j hkn (fun i hi => by
          have := HX.out.2 (kept * 4 + i) (by rw [HL.out]; omega)
          rw [show 0 + (kept * 4 + i) = kept * 4 + i by omega] at this; exact this)
        have hM : IsMem (wr.setCells M (kept * 4) (zcs (j - kept))) M (uni S ++ List.replicate (j - (uni S).length) zp) := by
          have := HX.out.cleared (k := kept) (by rw [HL.out]; omega)
          rw [HL.out, HE.out.1] at this
          rw [← HE.out.2]; exact this
        have hO : Only M w (wr.setCells M (kept * 4) (zcs (j - kept))) := HO.out.setCells _ _
        go_wp2
        go_ret
        exact ⟨by rw [← HE.out.2]; rfl, hM, hO⟩
      · obtain rfl : kept = j := by omega
        have hC := fun w => run_clear0 w M 0
        have hC' := fun w => run_clear0 w M (kept * 4)
        have hM : IsMem wr M (uni S ++ List.replicate (kept - (uni S).length) zp) := by
          have e : X = uni S := by rw [← HE.out.1, List.take_of_length_le (by rw [HL.out]; exact Nat.le_refl _)]
          rw [← HE.out.2, ← e]; simpa using HX.out
        go_wp2
        go_ret
        exact ⟨by rw [← HE.out.2]; rfl, hM, HO.out⟩
end Go.Proofs.Ybulkatic
