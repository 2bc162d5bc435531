import Derived.Test.YbulkatduSame
import Derived.Test.YbulkatduSort
namespace Go.Proofs.Ybulkatdu
open Go.RowKit
set_option linter.unusedSimpArgs false

def K1 (L1 : List Nat) (f1 : Nat → Int) (L2 : List Nat) (f2 : Nat → Int) (k : Nat) : List Nat := (L1.take k).filter fun q => !sameB L1 f1 L2 f2 q
def K2 (L1 L2 : List Nat) (k : Nat) : List Nat := (L2.take k).filter fun q => !L1.contains q

theorem ownsRow_below {w w' : World} {base : Nat} {e : TypeId} {size : Nat} {v : Value} {n : Nat} {xs : List Value} (h : w.ownsRow base e size v n xs) (hb : Below w.heap.size w w') : w'.ownsRow base e size v n xs := by
  obtain ⟨h1, h2⟩ := h
  refine ⟨h1, ?_⟩
  rcases h2 with h2 | ⟨g, cap, cur, hv, hg, hh, r⟩
  · exact .inl h2
  · refine .inr ⟨g, cap, cur, hv, hg, ?_, r⟩
    have : g < w.heap.size := by
      rcases Nat.lt_or_ge g w.heap.size with hx | hx
      · exact hx
      · rw [Array.getElem?_eq_none hx] at hh; cases hh
    rw [hb.block g this]; exact hh

theorem take_hit (L : List Nat) (p : Nat → Bool) (k : Nat) (hk : k < L.length) (h : p (L.getD k 0) = true) : (L.take (k + 1)).filter p = (L.take k).filter p ++ [L.getD k 0] := by
  have e : L.getD k 0 = L[k] := by rw [List.getD_eq_getElem?_getD, List.getElem?_eq_getElem hk]; rfl
  rw [List.take_succ_eq_append_getElem hk, List.filter_append]
  rw [e] at h ⊢
  simp [h]
theorem take_miss (L : List Nat) (p : Nat → Bool) (k : Nat) (hk : k < L.length) (h : p (L.getD k 0) = false) : (L.take (k + 1)).filter p = (L.take k).filter p := by
  have e : L.getD k 0 = L[k] := by rw [List.getD_eq_getElem?_getD, List.getElem?_eq_getElem hk]; rfl
  rw [List.take_succ_eq_append_getElem hk, List.filter_append]
  rw [e] at h
  simp [h]
theorem take_len (L : List Nat) (p : Nat → Bool) (k : Nat) : ((L.take k).filter p).length ≤ k := by
  have h1 := List.length_filter_le p (L.take k)
  have h2 := List.length_take_le k L
  omega

/-- The slice value of a graph's targets, in one form. -/
theorem TRow.shape {w : World} {v : Value} {L : List Nat} {hf : Nat → Int} (h : TRow w v L hf) :
    L.length ≤ 8 ∧ ∃ ao cap, v = .slice ao L.length cap ∧ (0 < L.length → ∃ g, ao = some ⟨g, 0, none⟩ ∧ g < w.heap.size ∧ ∀ j, j < L.length → w.rangeAt g (j * 35) (tc (L.getD j 0) (hf (L.getD j 0)))) := by
  obtain ⟨h1, h2⟩ := h
  refine ⟨h1, ?_⟩
  rcases h2 with ⟨rfl, rfl⟩ | ⟨g, cap, rfl, hg, hc⟩
  · exact ⟨none, 0, rfl, fun h => absurd h (by simp)⟩
  · exact ⟨some ⟨g, 0, none⟩, cap, rfl, fun _ => ⟨g, rfl, hg, hc⟩⟩

theorem strs_snoc (L : List Nat) (q : Nat) : strs (L ++ [q]) = strs L ++ [.string (nm q)] := by simp [strs]
theorem own_ge {w : World} {base : Nat} {e : TypeId} {size : Nat} {v : Value} {n : Nat} {xs : List Value} (h : w.ownsRow base e size v n xs) : ∀ k, v.ownBlock = some k → base ≤ k := by
  intro k hk
  rcases h.2 with ⟨rfl, -⟩ | ⟨g, cap, cur, rfl, hg, -⟩
  · simp [Value.ownBlock] at hk
  · simp [Value.ownBlock] at hk; omega

theorem Yba.info9 : (Yba.prog.info? 9).map (fun i => (i.zero, i.size, i.bytes)) = some (some (.string ⟨#[]⟩), 1, 16) := by kernel_rfl

theorem look_g (G : Nat) (L : List Nat) (hf : Nat → Int) (q : Nat) (w : World) (h : IsG w G L hf) (hq : q < 8) :
    Calls Yba.prog 11 #[.pointer (some ⟨G, 0, none⟩), .string (nm q)] w fun e w' => e = .returned (.tuple #[.agg (got L hf q).toArray, .bool (L.contains q)]) ∧ Below w.heap.size w w' := by
  obtain ⟨v, h1, h2, h3, h4⟩ := h
  exact look_any G v L hf q w h1 h2 h3 hq h4

theorem aff_any (G1 G2 : Nat) (L1 L2 : List Nat) (f1 f2 : Nat → Int) (D : List Nat) (w : World) (h1 : IsG w G1 L1 f1) (h2 : IsG w G2 L2 f2) (hD8 : D.length ≤ 8)
    (hD : (((L1.filter (fun q => !sameB L1 f1 L2 f2 q) ++ L2.filter (fun q => !L1.contains q)).map nmL).mergeSort fun x y => decide (x ≤ y)) = D.map nmL) :
    Calls Yba.prog 6 #[.pointer (some ⟨G1, 0, none⟩), .pointer (some ⟨G2, 0, none⟩)] w fun e w' => ∃ v, e = .returned v ∧ NmRow w' v D ∧ Below w.heap.size w w' := by
  have HD : Hid ((((L1.filter (fun q => !sameB L1 f1 L2 f2 q) ++ L2.filter (fun q => !L1.contains q)).map nmL).mergeSort fun x y => decide (x ≤ y)) = D.map nmL) := hD
  clear hD
  obtain ⟨i0, hi0, hz0, hz1, hz2⟩ := info_parts Yba.info9
  obtain ⟨v1, c1, t1, p1, m1⟩ := id h1
  obtain ⟨hl1, ao1, cap1, rfl, r1⟩ := t1.shape
  obtain ⟨n1, hn1⟩ : ∃ n1, n1 = L1.length := ⟨_, rfl⟩
  rw [← hn1] at c1 hl1 r1
  have HN1 : Hid (n1 = L1.length) := hn1
  clear hn1 t1 p1
  go_enter Yba.func6, Yba.ntmps6
  go_wp2
  go_loopw [5, 17] (fun v i wr => ∃ k : Nat, k ≤ n1 ∧ i = .int .i64 k ∧ wr.ownsRow w.heap.size 9 1 v (K1 L1 f1 L2 f2 k).length (strs (K1 L1 f1 L2 f2 k)) ∧ Below w.heap.size w wr) (fun _ i _ => n1 - (intOf i).toNat)
  case atStart => exact ⟨0, Nat.zero_le _, rfl, World.ownsRow_nil _ _ _ _, Below.refl _ _⟩
  case round =>
    obtain ⟨k, hk, rfl, hown, hb⟩ := hrel
    by_cases hlt : k < n1
    · obtain ⟨g, rfl, hg, hc⟩ := r1 (by omega)
      have hr := rangeAt_below hb hg (hc k hlt)
      obtain ⟨q, hq⟩ : ∃ q, q = L1.getD k 0 := ⟨_, rfl⟩
      rw [← hq] at hr
      have hq8 : q < 8 := by rw [hq]; exact m1 _ (getD_mem (by rw [← HN1.out]; exact hlt))
      have HQ : Hid (q = L1.getD k 0) := hq
      clear hq hc r1
      have hh := tc_head wr q (f1 q)
      have hbA : Below w.heap.size w (wr.alloc (.cells (tc q (f1 q)).toArray 38)) := hb.alloc hb.size _
      have hsA := hb.size
      go_wp2_with (first
        | (refine wpList_load_mid rfl 38 _ rfl g _ rfl (tc q (f1 q)) _ hr Yba.underlying38 rfl Yba.size38 ?_)
        | (refine wpList_store_new rfl 38 _ _ rfl wr _ (tc q (f1 q)).toArray 38 rfl rfl rfl Yba.size38 rfl (tc_all _ _) ?_))
      refine (same_any G1 G2 L1 L2 f1 f2 q _ (h1.later hbA) (h2.later hbA) hq8).mono ?_
      rintro e w1 ⟨rfl, hb1⟩
      have hsz1 := hb1.size
      simp only [World.size_alloc] at hsz1
      have hb1' : Below w.heap.size w w1 := hbA.trans (hb1.mono (by simp; omega))
      have hown1 : w1.ownsRow w.heap.size 9 1 u5 (K1 L1 f1 L2 f2 k).length (strs (K1 L1 f1 L2 f2 k)) := ownsRow_below (hown.alloc _) hb1
      have hh1 : w1.cell? ⟨wr.heap.size, 0, none⟩ = some (.string (nm q)) := by rw [hb1.cell (by simp)]; exact hh
      have hkl := take_len L1 (fun q => !sameB L1 f1 L2 f2 q) k
      have hkl' : (K1 L1 f1 L2 f2 k).length ≤ k := hkl
      clear hkl hh hown hb hbA hr hb1
      cases hsame : sameB L1 f1 L2 f2 q with
      | true =>
        have R : K1 L1 f1 L2 f2 (k + 1) = K1 L1 f1 L2 f2 k := take_miss L1 _ k (by rw [← HN1.out]; exact hlt) (by rw [← HQ.out]; simp [hsame])
        have HR : Hid (K1 L1 f1 L2 f2 (k + 1) = K1 L1 f1 L2 f2 k) := R
        clear R
        go_wp2
        go_roundw
        case rel => exact ⟨k + 1, by omega, by go_num, by rw [HR.out]; exact hown1, hb1'⟩
        case measure => simp [intOf]; omega
      | false =>
        have R : K1 L1 f1 L2 f2 (k + 1) = K1 L1 f1 L2 f2 k ++ [q] := by
          have := take_hit L1 (fun q => !sameB L1 f1 L2 f2 q) k (by rw [← HN1.out]; exact hlt) (by rw [← HQ.out]; simp [hsame])
          rw [← HQ.out] at this; exact this
        have HR : Hid (K1 L1 f1 L2 f2 (k + 1) = K1 L1 f1 L2 f2 k ++ [q]) := R
        clear R
        go_wp2_with (at_builtin; refine wpList_append_own _ rfl _ _ 25 rfl w.heap.size 9 i0 _ 1 16 Yba.underlying25 hi0 hz0 hz1 hz2 rfl (by decide) _ _ _ rfl (hown1.alloc _) ⟨w1.heap.size, 0, none⟩ 1 1 [.string (nm q)] rfl rfl (World.news_of_block (cs := #[.string (nm q)]) (t := 9) (fr := (0, 0)) (heap_alloc_new w1 _)) (by simp [Value.oneCell']) (by unfold maxLen; omega) (by omega) (by have := hb1'.size; simp; omega) ?_; intro v' w2 hown2 hgrow2 _)
        have hb2 : Below w.heap.size w w2 := (hb1'.alloc hb1'.size _).grown hgrow2 (by have := hb1'.size; simp; omega) (own_ge hown1)
        go_roundw
        case rel => exact ⟨k + 1, by omega, by go_num, by rw [HR.out, strs_snoc, List.length_append]; exact hown2, hb2⟩
        case measure => simp [intOf]; omega
    · obtain rfl : k = n1 := by omega
      obtain ⟨A, hA⟩ : ∃ A, A = K1 L1 f1 L2 f2 k := ⟨_, rfl⟩
      rw [← hA] at hown
      have hAl : A.length ≤ k := by rw [hA]; exact take_len L1 _ k
      have HA : Hid (A = K1 L1 f1 L2 f2 k) := hA
      clear hA r1 c1 m1
      obtain ⟨v2, c2, t2, p2, m2⟩ := id h2
      rw [← hb.cell (by exact block_lt_of_cell c2)] at c2
      obtain ⟨hl2, ao2, cap2, rfl, r2⟩ := t2.shape
      obtain ⟨n2, hn2⟩ : ∃ n2, n2 = L2.length := ⟨_, rfl⟩
      rw [← hn2] at c2 hl2 r2
      have HN2 : Hid (n2 = L2.length) := hn2
      clear hn2 t2 p2
      go_wp2
      go_loopw [5, 38] (fun v i ws => ∃ j : Nat, j ≤ n2 ∧ i = .int .i64 j ∧ ws.ownsRow w.heap.size 9 1 v (A ++ K2 L1 L2 j).length (strs (A ++ K2 L1 L2 j)) ∧ Below w.heap.size w ws) (fun _ i _ => n2 - (intOf i).toNat)
      case atStart => exact ⟨0, Nat.zero_le _, rfl, by simpa [K2] using hown, hb⟩
      case round =>
        clear hown hb c2
        obtain ⟨j, hj, rfl, hown, hb⟩ := hrel
        by_cases hlt2 : j < n2
        · obtain ⟨g, rfl, hg, hc⟩ := r2 (by omega)
          have hr := rangeAt_below hb hg (hc j hlt2)
          obtain ⟨q, hq⟩ : ∃ q, q = L2.getD j 0 := ⟨_, rfl⟩
          rw [← hq] at hr
          have hq8 : q < 8 := by rw [hq]; exact m2 _ (getD_mem (by rw [← HN2.out]; exact hlt2))
          have HQ : Hid (q = L2.getD j 0) := hq
          clear hq hc r2
          have hh := tc_head wr q (f2 q)
          have hbA : Below w.heap.size w (wr.alloc (.cells (tc q (f2 q)).toArray 38)) := hb.alloc hb.size _
          have hsA := hb.size
          go_wp2_with (first
            | (refine wpList_load_mid rfl 38 _ rfl g _ rfl (tc q (f2 q)) _ hr Yba.underlying38 rfl Yba.size38 ?_)
            | (refine wpList_store_new rfl 38 _ _ rfl wr _ (tc q (f2 q)).toArray 38 rfl rfl rfl Yba.size38 rfl (tc_all _ _) ?_))
          refine (look_g G1 L1 f1 q _ (h1.later hbA) hq8).mono ?_
          rintro e w1 ⟨rfl, hb1⟩
          have hsz1 := hb1.size
          simp only [World.size_alloc] at hsz1
          have hb1' : Below w.heap.size w w1 := hbA.trans (hb1.mono (by simp; omega))
          have hown1 : w1.ownsRow w.heap.size 9 1 u5 (A ++ K2 L1 L2 j).length (strs (A ++ K2 L1 L2 j)) := ownsRow_below (hown.alloc _) hb1
          have hh1 : ∀ o, (w1.alloc o).cell? ⟨wr.heap.size, 0, none⟩ = some (.string (nm q)) := fun o => by
            rw [World.cell?_alloc_lt _ _ _ (by show wr.heap.size < w1.heap.size; omega), hb1.cell (by simp)]; exact hh
          have hkl : (A ++ K2 L1 L2 j).length ≤ 8 + j := by
            have h3 := take_len L2 (fun q => !L1.contains q) j
            rw [List.length_append]
            show A.length + ((L2.take j).filter fun q => !L1.contains q).length ≤ _
            omega
          obtain ⟨ct, hct⟩ : ∃ ct, ct = L1.contains q := ⟨_, rfl⟩
          rw [← hct]
          have HC : Hid (ct = L1.contains q) := hct
          have hall := got_all L1 f1 q
          have k38 : Hid ((Yba.prog.info? 38).map (·.size) = some (got L1 f1 q).toArray.size) := by
            rw [show (got L1 f1 q).toArray.size = 35 by simpa using got_len L1 f1 q]; exact Yba.size38
          have kz : Hid (zc.toArray.size = (got L1 f1 q).toArray.size) := by
            rw [show (got L1 f1 q).toArray.size = 35 by simpa using got_len L1 f1 q]; rfl
          obtain ⟨gt, hgt⟩ : ∃ gt, gt = got L1 f1 q := ⟨_, rfl⟩
          rw [← hgt] at hall k38 kz ⊢
          clear hct hgt hh hown hb hbA hr hb1
          cases ct with
          | true =>
            have R : K2 L1 L2 (j + 1) = K2 L1 L2 j := take_miss L2 _ j (by rw [← HN2.out]; exact hlt2) (by rw [← HQ.out, ← HC.out]; rfl)
            have HR : Hid (K2 L1 L2 (j + 1) = K2 L1 L2 j) := R
            clear R
            go_wp2_with (refine wpList_store_new rfl 38 _ _ rfl w1 _ gt.toArray 38 rfl rfl rfl k38.out kz.out hall ?_)
            go_roundw
            case rel => exact ⟨j + 1, by omega, by go_num, by rw [HR.out]; exact hown1.alloc _, hb1'.alloc hb1'.size _⟩
            case measure => simp [intOf]; omega
          | false =>
            have R : K2 L1 L2 (j + 1) = K2 L1 L2 j ++ [q] := by
              have := take_hit L2 (fun q => !L1.contains q) j (by rw [← HN2.out]; exact hlt2) (by rw [← HQ.out, ← HC.out]; rfl)
              rw [← HQ.out] at this; exact this
            have HR : Hid (K2 L1 L2 (j + 1) = K2 L1 L2 j ++ [q]) := R
            clear R
            go_wp2_with (first
              | (refine wpList_store_new rfl 38 _ _ rfl w1 _ gt.toArray 38 rfl rfl rfl k38.out kz.out hall ?_)
              | (at_builtin; refine wpList_append_own _ rfl _ _ 25 rfl w.heap.size 9 i0 _ 1 16 Yba.underlying25 hi0 hz0 hz1 hz2 rfl (by decide) _ _ _ rfl ((hown1.alloc _).alloc _) ⟨w1.heap.size + 1, 0, none⟩ 1 1 [.string (nm q)] rfl rfl (World.news_of_block (cs := #[.string (nm q)]) (t := 9) (fr := (0, 0)) (heap_alloc2_new w1 _ _)) (by simp [Value.oneCell']) (by unfold maxLen; omega) (by omega) (by have := hb1'.size; simp; omega) ?_; intro v' w2 hown2 hgrow2 _))
            have hb2 : Below w.heap.size w w2 := ((hb1'.alloc hb1'.size _).alloc (by have := hb1'.size; simp; omega) _).grown hgrow2 (by have := hb1'.size; simp; omega) (own_ge hown1)
            go_roundw
            case rel => exact ⟨j + 1, by omega, by go_num, by rw [HR.out, ← List.append_assoc, strs_snoc, List.length_append]; exact hown2, hb2⟩
            case measure => simp [intOf]; omega
        · obtain rfl : j = n2 := by omega
          have eA : A = L1.filter (fun q => !sameB L1 f1 L2 f2 q) := by
            rw [HA.out, K1, List.take_of_length_le (by rw [← HN1.out]; exact Nat.le_refl _)]
          have eB : K2 L1 L2 j = L2.filter (fun q => !L1.contains q) := by
            rw [K2, List.take_of_length_le (by rw [← HN2.out]; exact Nat.le_refl _)]
          have hlen16 : (A ++ K2 L1 L2 j).length ≤ 16 := by
            have h3 := take_len L2 (fun q => !L1.contains q) j
            rw [List.length_append]
            show A.length + ((L2.take j).filter fun q => !L1.contains q).length ≤ _
            omega
          have hsrt := sort_names u5 (A ++ K2 L1 L2 j) D w.heap.size wr hown hlen16 hD8 hb.size (by rw [eA, eB]; exact HD.out)
          clear eA eB r2 hown
          go_wp2_with fail
          refine hsrt.mono ?_
          rintro e w1 ⟨rfl, hN, hb1⟩
          go_wp2
          go_ret
          exact ⟨_, rfl, hN, hb.trans hb1⟩
end Go.Proofs.Ybulkatdu
