import Derived.Test.YbulkaticUnique
namespace Go.Proofs.Ybulkatic
open Go.RowKit Go.Maps Go.WideMaps

theorem law9 : Keyed Yba.prog 9 := string_keyed Yba.underlying9
theorem zero3 (w : World) : (zeroValue 3).run Yba.prog w = .ok (.int .i64 0) w := Yba.zeroValue3 w

theorem run_makeMap_n (w : World) (n : Nat) : (Instr.makeMap 78 (some (.int .i64 (n : Int)))).run Yba.prog w = .ok (.map (some w.heap.size)) (w.alloc (.map #[] 0)) := by
  simp [Instr.makeMap, run_underlying Yba.underlying78, asInt, asIntOf]

theorem IsMem.grown {w w' : World} {M : Nat} {X : List (ByteArray × ByteArray)} {row : Option Nat} (h : IsMem w M X) (hg : w.grownBy w' row) (hM : M < w.heap.size) (hne : some M ≠ row) : IsMem w' M X := h.of_block (hg.block M hM hne)
theorem Only.grown {M : Nat} {w wr w' : World} {b : Nat} (h : Only M w wr) (hg : wr.grownBy w' (some b)) (hb : w.heap.size ≤ b) : Only M w w' :=
  ⟨hg.os.trans h.os, hg.tape.trans h.tape, hg.output.trans h.output, Nat.le_trans h.size hg.size, fun k hk hne => (hg.block k (Nat.lt_of_lt_of_le hk h.size) (by intro e; cases e; omega)).trans (h.block k hk hne)⟩
theorem ownsMap_setCells {w : World} {P : Program} {k : TypeId} {R : Value → Option (DataW Unit × List MemPlace)} {b n : Nat} {D : DataW Unit} (h : w.ownsMap P k R b n D) (M o : Nat) (vs : List Value) (hne : b ≠ M) : (w.setCells M o vs).ownsMap P k R b n D := by
  obtain ⟨h1, h2, h3, h4, h5⟩ := setCells_rest M vs o w
  refine h.kept (row := some M) ⟨h1, h2, h3, by omega, fun i hi hne' => h5 i (by intro e; subst e; exact hne' rfl)⟩ (by intro e; cases e; exact hne rfl)

set_option maxRecDepth 100000 in
theorem many_any (M n : Nat) (S : List (ByteArray × ByteArray)) (w : World) (hS : S.length = n) (hn : 16 < n) (hn2 : n ≤ 1024) (hm : IsMem w M S) (hsz : ∀ i, i < n → (S.getD i zp).1.size ≤ maxLen) :
    Calls Yba.prog 18 #[.slice (some ⟨M, 0, none⟩) n n] w fun e w' => e = .returned (.slice (some ⟨M, 0, none⟩) (uni S).length n) ∧ IsMem w' M (uni S ++ List.replicate (n - (uni S).length) zp) ∧ Only M w w' := by
  have q78 : ∀ (w : World) (r : Option Nat), (binOp .eql 78 (.map r) (.map none)).run Yba.prog w = .ok (.bool r.isNone) w := fun w r => run_eql_map_nil w _ _ _ r Yba.underlying78
  have hmk : ∀ w, (Instr.makeMap 78 (some (.int .i64 (n : Int)))).run Yba.prog w = .ok (.map (some w.heap.size)) (w.alloc (.map #[] 0)) := fun w => run_makeMap_n w n
  have hMl : M < w.heap.size := hm.lt (by omega)
  have HS : Hid (S.length = n) := hS
  have HZ : Hid (∀ i, i < n → (S.getD i zp).1.size ≤ maxLen) := hsz
  clear hS hsz
  have hd16 : decide ((16 : Int) < (n : Int)) = true := by simp; omega
  have hn16 : (16 : Int) < (n : Int) := by omega
  go_enter Yba.func18, Yba.ntmps18
  go_wp2
  go_loopw [4, 17] (fun kp i wr => ∃ j kept : Nat, j ≤ n ∧ i = .int .i64 j ∧ kp = .int .i64 kept ∧ ∃ X D, PInv S X j kept ∧ IsMem wr M X ∧ Only M w wr ∧ wr.ownsMap Yba.prog 9 (plainElem Yba.prog 3) w.heap.size j D ∧ DInv D (uni (S.take j))) (fun _ i _ => n - (intOf i).toNat)
  case atStart => exact ⟨0, 0, Nat.zero_le _, rfl, rfl, S, .map [], PInv.start S, hm.of_block (Below.heap_alloc w _ M hMl), Only.of_below ((Below.refl _ _).alloc (Nat.le_refl _) _), World.ownsMap_made _ _ _ _, by simpa [uni] using DInv.start⟩
  case round =>
    obtain ⟨j, kept, hj, rfl, rfl, X, D, hP, hX, hO, hown, hD⟩ := hrel
    have HP : Hid (PInv S X j kept) := hP
    have HX : Hid (IsMem wr M X) := hX
    have HO : Hid (Only M w wr) := hO
    have HL : Hid (X.length = n) := hP.1.trans HS.out
    have HD : Hid (DInv D (uni (S.take j))) := hD
    have hkj := hP.2.2.2.1
    have hws := hO.size
    clear hP hX hO hD
    by_cases hlt : j < n
    · obtain ⟨a, ha⟩ : ∃ a, a = (X.getD j zp).1 := ⟨_, rfl⟩
      have cj : wr.cell? ⟨M, j * 4, none⟩ = some (.string a) := by rw [ha]; exact HX.out.name (by rw [HL.out]; exact hlt)
      have haS : a = (S.getD j zp).1 := by rw [ha, HP.out.2.2.2.2 j (Nat.le_refl _)]
      have hka : keyOf Yba.prog 9 (.string a) = some (.string a.data.toList) := keyOf_string_mk Yba.underlying9 (by rw [haS]; exact HZ.out j hlt)
      have hda := HD.out.2 a.data.toList
      have hnj : a.data.toList = nmAt S j := by rw [haS, ← toList_data]; rfl
      have d4 : (0 : Int) ≤ (j : Int) := by omega
      have d5 : (j : Int) < (n : Int) := by omega
      by_cases hit : pos (uni (S.take j)) (nmAt S j) < (uni (S.take j)).length
      · obtain ⟨x, hx⟩ : ∃ x, x = pos (uni (S.take j)) (nmAt S j) := ⟨_, rfl⟩
        have hxk : x < kept := by rw [HP.out.2.2.1, hx]; exact hit
        have hhas : Maps.has D (.string a.data.toList) = true := by rw [hda.1, hnj]; simpa using hit
        have HA : Hid (D.atKey (.string a.data.toList) (.lit (.int .i64 0)) = .lit (.int .i64 (x : Nat))) := by
          have := hda.2 (by rw [hnj]; exact hit)
          rw [this, hnj, hx]; rfl
        obtain ⟨X', hX'⟩ : ∃ X', X' = X.set x ((X.getD x zp).1, (X.getD j zp).2) := ⟨_, rfl⟩
        have HR : Hid (PInv S X' (j + 1) kept) := by rw [hX']; exact HP.out.hit (by rw [HS.out]; exact hlt) hxk hx.symm
        have HDR : Hid (DInv D (uni (S.take (j + 1)))) := by
          rw [uni_take (by rw [HS.out]; exact hlt)]; exact HD.out.hit hit
        obtain ⟨t, ht⟩ : ∃ t, t = (X.getD j zp).2 := ⟨_, rfl⟩
        have V1 : wr.rangeAt M (j * 4 + 1) (vals t) := by rw [ht]; exact HX.out.val (by rw [HL.out]; exact hlt)
        have T1 : wr.there M (x * 4 + 1) (vals t).toArray.size := HX.out.thereVal (by rw [HL.out]; omega)
        have M1 : IsMem (wr.setCells M (x * 4 + 1) (vals t)) M X' := by rw [hX', ht]; exact HX.out.setVal (by rw [HL.out]; omega) _
        have Q1 : Only M w (wr.setCells M (x * 4 + 1) (vals t)) := HO.out.setCells _ _
        have O1 := ownsMap_setCells (hown.mono (n' := j + 1) (by omega)) M (x * 4 + 1) (vals t) (by omega)
        have d1 : (x : Int) < (kept : Int) := by omega
        have d2 : (0 : Int) ≤ (x : Int) := by omega
        have d3 : (x : Int) < (n : Int) := by omega
        clear hit hx hX' ht hda hnj haS ha
        go_wp2_with (first
          | (at_lookup; refine wpList_lookup_own_ok_int _ rfl _ _ 78 rfl 9 3 .i64 law9 Yba.underlying78 Yba.underlying3 (zero3 _) w.heap.size j D rfl hown _ _ rfl hka ?_; intro c hat hwc; obtain rfl : c = (x : Int) := by (have hcc := hat.symm.trans HA.out; cases hcc; rfl))
          | ((with_reducible refine at_load 61 ?_); refine wpList_load_mid rfl 61 _ rfl M _ rfl (vals t) _ V1 Yba.underlying61 rfl Yba.size61 ?_)
          | ((with_reducible refine at_store 61 ?_); refine wpList_store_mid rfl 61 _ _ rfl M _ (vals t).toArray rfl rfl T1 Yba.size61 (vals_one _) ?_))
        go_roundw
        case rel => exact ⟨j + 1, kept, by omega, by go_num, rfl, X', D, HR.out, M1, Q1, O1, HDR.out⟩
        case measure => simp [intOf]; omega
      · have hhas : Maps.has D (.string a.data.toList) = false := by rw [hda.1, hnj]; simpa using hit
        have hmiss : ¬ pos (uni (S.take j)) (nmAt S j) < kept := by rw [HP.out.2.2.1]; exact hit
        obtain ⟨X', hX'⟩ : ∃ X', X' = X.set kept (X.getD j zp) := ⟨_, rfl⟩
        have HR : Hid (PInv S X' (j + 1) (kept + 1)) := by rw [hX']; exact HP.out.miss (by rw [HS.out]; exact hlt) hmiss
        have HDR : Hid (DInv (D.put (.string a.data.toList) (.lit (.int .i64 (kept : Nat)))) (uni (S.take (j + 1)))) := by
          have := HD.out.miss (a := S.getD j zp) hit
          rw [← uni_take (by rw [HS.out]; exact hlt), ← HP.out.2.2.1, ← haS, toList_data] at this
          exact this
        obtain ⟨p, hp⟩ : ∃ p, p = X.getD j zp := ⟨_, rfl⟩
        have HV : ∀ w1, wr.grownBy w1 (some w.heap.size) → w1.rangeAt M (j * 4) (mem p) := fun w1 hg => by rw [hp]; exact (HX.out.grown hg (by omega) (by intro e; cases e; omega)).whole (by rw [HL.out]; exact hlt)
        have HT : ∀ w1, wr.grownBy w1 (some w.heap.size) → w1.there M (kept * 4) (mem p).toArray.size := fun w1 hg => (HX.out.grown hg (by omega) (by intro e; cases e; omega)).thereAll (by rw [HL.out]; omega)
        have HM : ∀ w1, wr.grownBy w1 (some w.heap.size) → IsMem (w1.setCells M (kept * 4) (mem p)) M X' := fun w1 hg => by rw [hX', hp]; exact (HX.out.grown hg (by omega) (by intro e; cases e; omega)).setAll (by rw [HL.out]; omega) _
        have HQ : ∀ w1, wr.grownBy w1 (some w.heap.size) → Only M w w1 := fun w1 hg => HO.out.grown hg (Nat.le_refl _)
        have HXg : ∀ w1, wr.grownBy w1 (some w.heap.size) → IsMem w1 M X := fun w1 hg => HX.out.grown hg (by omega) (by intro e; cases e; omega)
        have d0 : (0 : Int) ≤ (kept : Int) := by omega
        have d1 : (kept : Int) < (n : Int) := by omega
        by_cases hkj' : kept = j
        · subst hkj'
          have HE : Hid (X' = X) := by show X' = X; rw [hX']; exact HP.out.same (by rw [HS.out]; exact hlt)
          clear hit hmiss hX' hp hda hnj haS ha HV HT HM
          go_wp2_with (first
            | (at_lookup; refine wpList_lookup_own_ok_int _ rfl _ _ 78 rfl 9 3 .i64 law9 Yba.underlying78 Yba.underlying3 (zero3 _) w.heap.size kept D rfl hown _ _ rfl hka ?_; intro c hat hwc)
            | (at_mapUpdate; refine wpList_mapUpdate_own _ rfl _ _ _ 78 rfl 9 3 law9 Yba.underlying78 _ w.heap.size kept D rfl hown (by unfold maxLen; omega) _ _ _ rfl rfl hka _ [] (plainElem_int Yba.underlying3 (WalkArith.wf_i64 (by omega))) ?_; intro w1 hown1 hgrow1))
          go_roundw
          case rel => exact ⟨kept + 1, kept + 1, by omega, by go_num, by go_num, X', _, HR.out, by rw [HE.out]; exact HXg _ hgrow1, HQ _ hgrow1, hown1, HDR.out⟩
          case measure => simp [intOf]; omega
        · clear hit hmiss hX' hp hda hnj haS ha HXg
          go_wp2_with (first
            | (at_lookup; refine wpList_lookup_own_ok_int _ rfl _ _ 78 rfl 9 3 .i64 law9 Yba.underlying78 Yba.underlying3 (zero3 _) w.heap.size j D rfl hown _ _ rfl hka ?_; intro c hat hwc)
            | (at_mapUpdate; refine wpList_mapUpdate_own _ rfl _ _ _ 78 rfl 9 3 law9 Yba.underlying78 _ w.heap.size j D rfl hown (by unfold maxLen; omega) _ _ _ rfl rfl hka _ [] (plainElem_int Yba.underlying3 (WalkArith.wf_i64 (by omega))) ?_; intro w1 hown1 hgrow1; have V1 := HV w1 hgrow1; have T1 := HT w1 hgrow1)
            | ((with_reducible refine at_load 63 ?_); refine wpList_load_mid rfl 63 _ rfl M _ rfl (mem p) _ (by assumption) Yba.underlying63 rfl Yba.size63 ?_)
            | ((with_reducible refine at_store 63 ?_); refine wpList_store_mid rfl 63 _ _ rfl M _ (mem p).toArray rfl rfl (by assumption) Yba.size63 (mem_one _) ?_))
          go_roundw
          case rel => exact ⟨j + 1, kept + 1, by omega, by go_num, by go_num, X', _, HR.out, HM _ hgrow1, (HQ _ hgrow1).setCells _ _, ownsMap_setCells hown1 M (kept * 4) (mem p) (by omega), HDR.out⟩
          case measure => simp [intOf]; omega
    · obtain rfl : j = n := by omega
      obtain ⟨e1, e2⟩ := HP.out.done HS.out
      have HE : Hid (X.take kept = uni S ∧ kept = (uni S).length) := ⟨e1, e2⟩
      clear e1 e2 hown HD
      by_cases hkn : kept < j
      · have hC := run_clear wr M kept j hkn (fun i hi => by
          have := HX.out.2 (kept * 4 + i) (by rw [HL.out]; omega)
          rw [show 0 + (kept * 4 + i) = kept * 4 + i by omega] at this; exact this)
        have hM : IsMem (wr.setCells M (kept * 4) (zcs (j - kept))) M (uni S ++ List.replicate (j - (uni S).length) zp) := by
          have := HX.out.cleared (k := kept) (by rw [HL.out]; omega)
          rw [HL.out, HE.out.1] at this
          rw [← HE.out.2]; exact this
        have hO : Only M w (wr.setCells M (kept * 4) (zcs (j - kept))) := HO.out.setCells _ _
        go_wp2
        go_ret
        exact ⟨by rw [← HE.out.2]; rfl, hM, hO⟩
      · obtain rfl : kept = j := by omega
        have hC := fun w => run_clear0 w M 0
        have hC' := fun w => run_clear0 w M (kept * 4)
        have hM : IsMem wr M (uni S ++ List.replicate (kept - (uni S).length) zp) := by
          have e : X = uni S := by rw [← HE.out.1, List.take_of_length_le (by rw [HL.out]; exact Nat.le_refl _)]
          rw [← HE.out.2, ← e]; simpa using HX.out
        go_wp2
        go_ret
        exact ⟨by rw [← HE.out.2]; rfl, hM, HO.out⟩
end Go.Proofs.Ybulkatic
