import Derived.Test.YbulkatduAff
import Derived.WalkSmall
namespace Go.Proofs.Ybulkatdu
open Go.RowKit
set_option linter.unusedSimpArgs false

theorem tcs_at (hf : Nat → Int) : ∀ (L : List Nat) (j i : Nat) (u : Value), j < L.length → (tc (L.getD j 0) (hf (L.getD j 0)))[i]? = some u → (tcs hf L)[j * 35 + i]? = some u
  | [], j, i, u, hj, _ => by simp at hj
  | x :: L, 0, i, u, _, hu => by
    have hi : i < 35 := by
      have := (List.getElem?_eq_some_iff.1 hu).1
      simpa [tc_len] using this
    simp only [tcs, List.flatMap_cons, Nat.zero_mul, Nat.zero_add]
    rw [List.getElem?_append_left (by rw [tc_len]; exact hi)]
    simpa using hu
  | x :: L, j + 1, i, u, hj, hu => by
    have := tcs_at hf L j i u (by simpa using hj) (by simpa using hu)
    simp only [tcs, List.flatMap_cons]
    rw [List.getElem?_append_right (by rw [tc_len]; omega), tc_len]
    rw [show (j + 1) * 35 + i - 35 = j * 35 + i by omega]
    exact this

theorem trow_of {w : World} {base : Nat} {v : Value} {L : List Nat} {hf : Nat → Int} (hl : L.length ≤ 8) (h : w.ownsRow base 38 35 v L.length (tcs hf L)) : TRow w v L hf := by
  refine ⟨hl, ?_⟩
  rcases id h.2 with ⟨rfl, h0⟩ | ⟨g, cap, cur, rfl, hg, hh, -⟩
  · exact .inl ⟨rfl, List.eq_nil_of_length_eq_zero h0⟩
  · refine .inr ⟨g, cap, rfl, ?_, fun j hj i u hu => ?_⟩
    · rcases Nat.lt_or_ge g w.heap.size with hx | hx
      · exact hx
      · rw [Array.getElem?_eq_none hx] at hh; cases hh
    · have := h.cells (g := g) rfl (j * 35 + i) u (tcs_at hf L j i u hj hu)
      rw [Addr.add_mid] at this
      rw [← this]
      congr 2
      omega

theorem isG_of {w wr : World} {p : Nat → Bool} {hf : Nat → Int} {v : Value} (h : GInv w wr p hf 8 v) : IsG wr (w.heap.size + 1) (idx p) hf := by
  obtain ⟨h1, h2, h3, h4⟩ := h
  refine ⟨v, ?_, trow_of (upto_len p 8) h3, idx_sorted p, fun i hi => idx_lt hi⟩
  rw [cell_of_row _ _ _ _ _ _ h2]; rfl

/-- Is k affected? As the law's own text says it. -/
def dif (b a : Nat → Bool) (hb ha : Nat → Int) (k : Nat) : Bool := (b k != a k) || (b k && a k && hb k != ha k)

theorem idx_contains (p : Nat → Bool) (q : Nat) (hq : q < 8) : (idx p).contains q = p q := by
  rw [Bool.eq_iff_iff, List.contains_iff_mem]
  simp [idx, hq]

theorem same_dif (b a : Nat → Bool) (hb ha : Nat → Int) (q : Nat) (hq : q < 8) (h : b q = true) : (!sameB (idx b) hb (idx a) ha q) = dif b a hb ha q := by
  unfold sameB gx gy dif
  rw [idx_contains b q hq, idx_contains a q hq, h]
  cases a q
  · simp
  · simp only [beq_self_eq_true, Bool.true_and, if_true, bne_self_eq_false, Bool.false_or, Bool.and_true, Bool.true_and]
    by_cases e : hb q = ha q
    · simp [e]
    · have e1 : (hb q == ha q) = false := by simpa using e
      simp [bne, e1]

theorem gathered (b a : Nat → Bool) (hb ha : Nat → Int) : (idx b).filter (fun q => !sameB (idx b) hb (idx a) ha q) ++ (idx a).filter (fun q => !(idx b).contains q) = gath b a (dif b a hb ha) := by
  unfold gath
  congr 1
  · rw [show (idx b).filter (fun q => !sameB (idx b) hb (idx a) ha q) = (idx b).filter (dif b a hb ha) from List.filter_congr fun q hq => same_dif b a hb ha q (idx_lt hq) (idx_mem hq)]
    unfold idx
    rw [List.filter_filter]
    apply List.filter_congr
    intro i _
    rw [Bool.and_comm]
  · rw [show (idx a).filter (fun q => !(idx b).contains q) = (idx a).filter (fun q => !b q) from List.filter_congr fun q hq => by rw [idx_contains b q (idx_lt hq)]]
    unfold idx
    rw [List.filter_filter]
    apply List.filter_congr
    intro i _
    rw [Bool.and_comm]

theorem sorted_dif (b a : Nat → Bool) (hb ha : Nat → Int) :
    ((((idx b).filter (fun q => !sameB (idx b) hb (idx a) ha q) ++ (idx a).filter (fun q => !(idx b).contains q)).map nmL).mergeSort fun x y => decide (x ≤ y)) = (idx (dif b a hb ha)).map nmL := by
  rw [gathered]
  apply sort_gath
  · intro i h
    unfold dif at h
    cases hb' : b i <;> cases ha' : a i <;> simp [hb', ha'] at h ⊢
  · intro i h1 h2
    simp [dif, h1, h2]

theorem NmRow.later {w w' : World} {v : Value} {xs : List Nat} (h : NmRow w v xs) (hb : Below w.heap.size w w') : NmRow w' v xs := by
  obtain ⟨h1, h2⟩ := h
  refine ⟨h1, ?_⟩
  rcases h2 with h2 | ⟨b, off, cap, h2, h3⟩
  · exact .inl h2
  · exact .inr ⟨b, off, cap, h2, fun j hj => by rw [hb.cell (by exact block_lt_of_cell (h3 j hj))]; exact h3 j hj⟩

theorem nmrow_of {w : World} {base : Nat} {v : Value} {L : List Nat} (hl : L.length ≤ 8) (h : w.ownsRow base 9 1 v L.length (strs L)) : NmRow w v L := by
  refine ⟨hl, ?_⟩
  rcases id h.2 with ⟨rfl, h0⟩ | ⟨g, cap, cur, rfl, hg, hh, -⟩
  · exact .inl ⟨rfl, List.eq_nil_of_length_eq_zero h0⟩
  · refine .inr ⟨g, 0, cap, rfl, fun j hj => ?_⟩
    have hc := h.cells (g := g) rfl j (.string (nm (L.getD j 0))) (by
      simp only [strs, List.getElem?_map]
      rw [List.getD_eq_getElem?_getD, List.getElem?_eq_getElem hj]; rfl)
    rw [Addr.add_mid] at hc
    exact hc

theorem law_any (m1 m2 : Int) (a1 : Option Addr) (len1 cap1 : Nat) (z1 : List Int) (a2 : Option Addr) (len2 cap2 : Nat) (z2 : List Int) (w : World) (r1 : IsRow .u8 w a1 len1 cap1 z1) (r2 : IsRow .u8 w a2 len2 cap2 z2) :
    Calls Yba.prog 3 #[.int .u8 m1, .int .u8 m2, .slice a1 len1 cap1, .slice a2 len2 cap2] w fun e w' => e = .returned (.bool true) ∧ Below w.heap.size w w' := by
  obtain ⟨i0, hi0, hz0, hz1, hz2⟩ := info_parts Yba.info9
  go_enter Yba.func3, Yba.ntmps3
  go_wp2_with fail
  refine (graph_any m1 a1 len1 cap1 z1 w r1).mono ?_
  rintro e w1 ⟨rfl, v1, g1⟩
  have b1 : Below w.heap.size w w1 := g1.2.2.2
  have s1 := b1.size
  go_wp2_with fail
  refine (graph_any m2 a2 len2 cap2 z2 w1 (r2.later b1)).mono ?_
  rintro e w2 ⟨rfl, v2, g2⟩
  have b2 : Below w1.heap.size w1 w2 := g2.2.2.2
  have G1 := (isG_of g1).later b2
  have G2 := isG_of g2
  have D8 : (idx (dif (inM m1) (inM m2) (hashAt len1 z1) (hashAt len2 z2))).length ≤ 8 := upto_len _ 8
  have AF := aff_any _ _ _ _ _ _ _ w2 G1 G2 D8 (sorted_dif _ _ _ _)
  clear G1 G2 g1 g2
  go_wp2_with fail
  refine AF.mono ?_
  rintro e w3 ⟨v3, rfl, N3, b3⟩
  have s2 := b2.size
  have b23 : Below w.heap.size w w3 := (b1.trans (b2.mono s1)).trans (b3.mono (by omega))
  clear AF
  go_wp2_with (go_at_call 7; refine (names_any _).mono ?_; rintro e w' ⟨rfl, rfl⟩)
  obtain ⟨d, hd⟩ : ∃ d, d = dif (inM m1) (inM m2) (hashAt len1 z1) (hashAt len2 z2) := ⟨_, rfl⟩
  rw [← hd] at N3 D8
  have dk : Hid (∀ k, d k = ((inM m1 k != inM m2 k) || (inM m1 k && inM m2 k && hashAt len1 z1 k != hashAt len2 z2 k))) := fun k => by rw [hd]; rfl
  clear hd
  go_loopw [13, 14] (fun v i wr => ∃ k : Nat, k ≤ 8 ∧ i = .int .i64 k ∧ wr.ownsRow (w3.heap.size + 1) 9 1 v (upto d k).length (strs (upto d k)) ∧ Below (w3.heap.size + 1) (w3.alloc (.cells nmCells 9)) wr) (fun _ i _ => 8 - (intOf i).toNat)
  case atStart => exact ⟨0, Nat.zero_le _, rfl, World.ownsRow_nil _ _ _ _, Below.refl _ _⟩
  case round =>
    obtain ⟨k, hk, rfl, hown, hb⟩ := hrel
    have hsz := hb.size
    simp only [World.size_alloc] at hsz
    have hb3 : Below w.heap.size w wr := (b23.alloc b23.size _).trans (hb.mono (by have := b23.size; omega))
    by_cases hlt : k < 8
    · have hcn : wr.cell? ⟨w3.heap.size, k, none⟩ = some (.string (nm k)) := by
        rw [hb.cell (by show w3.heap.size < _; omega)]; exact names_cell (heap_alloc_new _ _) hlt
      have hul := upto_len d k
      have dk' := dk.out k
      cases hB : inM m1 k with
      | true =>
        cases hA : inM m2 k with
        | true =>
          by_cases hh : hashAt len1 z1 k = hashAt len2 z2 k
          · have hdk : d k = false := by rw [dk', hB, hA]; simp [hh]
            have hne : (hashAt len1 z1 k != hashAt len2 z2 k) = false := by simp [hh]
            unfold inM at hA hB
            have HR : Hid (upto d (k + 1) = upto d k) := upto_miss hdk
            clear dk' hdk hh
            have R1 := r1.later hb3
            have R2 := r2.later hb3
            go_wp2_with (first | (go_at_call_of 8 (Value.slice a1 len1 cap1); refine (hash_any a1 len1 cap1 z1 k _ R1 hlt).mono ?_; rintro e w' ⟨rfl, hw'⟩; obtain rfl := hw'.symm) | (go_at_call_of 8 (Value.slice a2 len2 cap2); refine (hash_any a2 len2 cap2 z2 k _ R2 hlt).mono ?_; rintro e w' ⟨rfl, hw'⟩; obtain rfl := hw'.symm))
            go_roundw
            case rel => exact ⟨k + 1, by omega, by go_num, by rw [HR.out]; exact hown, hb⟩
            case measure => simp [intOf]; omega
          · have hdk : d k = true := by rw [dk', hB, hA]; simp [hh]
            have hne : (hashAt len1 z1 k != hashAt len2 z2 k) = true := by simp [hh]
            unfold inM at hA hB
            have HR : Hid (upto d (k + 1) = upto d k ++ [k]) := upto_hit hdk
            clear dk' hdk hh
            have R1 := r1.later hb3
            have R2 := r2.later hb3
            go_wp2_with (first | (go_at_call_of 8 (Value.slice a1 len1 cap1); refine (hash_any a1 len1 cap1 z1 k _ R1 hlt).mono ?_; rintro e w' ⟨rfl, hw'⟩; obtain rfl := hw'.symm) | (go_at_call_of 8 (Value.slice a2 len2 cap2); refine (hash_any a2 len2 cap2 z2 k _ R2 hlt).mono ?_; rintro e w' ⟨rfl, hw'⟩; obtain rfl := hw'.symm) | (at_builtin; (refine wpList_append_own _ rfl _ _ 25 rfl (w3.heap.size + 1) 9 i0 _ 1 16 Yba.underlying25 hi0 hz0 hz1 hz2 rfl (by decide) _ _ _ rfl (hown.alloc _) ⟨wr.heap.size, 0, none⟩ 1 1 [.string (nm k)] rfl rfl (World.news_of_block (cs := #[.string (nm k)]) (t := 9) (fr := (0, 0)) (heap_alloc_new wr _)) (by simp [Value.oneCell']) (by unfold maxLen; omega) (by omega) (by simp; omega) ?_); intro v' w2 hown2 hgrow2 _))
            have hb2 : Below (w3.heap.size + 1) (w3.alloc (.cells nmCells 9)) w2 := (hb.alloc hsz _).grown hgrow2 (by simp; omega) (own_ge hown)
            go_roundw
            case rel => exact ⟨k + 1, by omega, by go_num, by rw [HR.out, strs_snoc, List.length_append]; exact hown2, hb2⟩
            case measure => simp [intOf]; omega
        | false =>
          have hdk : d k = true := by rw [dk', hB, hA]; rfl
          unfold inM at hA hB
          have HR : Hid (upto d (k + 1) = upto d k ++ [k]) := upto_hit hdk
          clear dk' hdk
          go_wp2_with (at_builtin; refine wpList_append_own _ rfl _ _ 25 rfl (w3.heap.size + 1) 9 i0 _ 1 16 Yba.underlying25 hi0 hz0 hz1 hz2 rfl (by decide) _ _ _ rfl (hown.alloc _) ⟨wr.heap.size, 0, none⟩ 1 1 [.string (nm k)] rfl rfl (World.news_of_block (cs := #[.string (nm k)]) (t := 9) (fr := (0, 0)) (heap_alloc_new wr _)) (by simp [Value.oneCell']) (by unfold maxLen; omega) (by omega) (by simp; omega) ?_; intro v' w2 hown2 hgrow2 _)
          have hb2 : Below (w3.heap.size + 1) (w3.alloc (.cells nmCells 9)) w2 := (hb.alloc hsz _).grown hgrow2 (by simp; omega) (own_ge hown)
          go_roundw
          case rel => exact ⟨k + 1, by omega, by go_num, by rw [HR.out, strs_snoc, List.length_append]; exact hown2, hb2⟩
          case measure => simp [intOf]; omega
      | false =>
        cases hA : inM m2 k with
        | true =>
          have hdk : d k = true := by rw [dk', hB, hA]; rfl
          unfold inM at hA hB
          have HR : Hid (upto d (k + 1) = upto d k ++ [k]) := upto_hit hdk
          clear dk' hdk
          go_wp2_with ((at_builtin; refine wpList_append_own _ rfl _ _ 25 rfl (w3.heap.size + 1) 9 i0 _ 1 16 Yba.underlying25 hi0 hz0 hz1 hz2 rfl (by decide) _ _ _ rfl (hown.alloc _) ⟨wr.heap.size, 0, none⟩ 1 1 [.string (nm k)] rfl rfl (World.news_of_block (cs := #[.string (nm k)]) (t := 9) (fr := (0, 0)) (heap_alloc_new wr _)) (by simp [Value.oneCell']) (by unfold maxLen; omega) (by omega) (by simp; omega) ?_; intro v' w2 hown2 hgrow2 _))
          have hb2 : Below (w3.heap.size + 1) (w3.alloc (.cells nmCells 9)) w2 := (hb.alloc hsz _).grown hgrow2 (by simp; omega) (own_ge hown)
          go_roundw
          case rel => exact ⟨k + 1, by omega, by go_num, by rw [HR.out, strs_snoc, List.length_append]; exact hown2, hb2⟩
          case measure => simp [intOf]; omega
        | false =>
          have hdk : d k = false := by rw [dk', hB, hA]; rfl
          unfold inM at hA hB
          have HR : Hid (upto d (k + 1) = upto d k) := upto_miss hdk
          clear dk' hdk
          go_wp2
          go_roundw
          case rel => exact ⟨k + 1, by omega, by go_num, by rw [HR.out]; exact hown, hb⟩
          case measure => simp [intOf]; omega
    · obtain rfl : k = 8 := by omega
      have W3 := nmrow_of D8 hown
      have N3' := N3.later (w' := wr) (((Below.refl _ _).alloc (Nat.le_refl _) _).trans (hb.mono (by omega)))
      go_wp2_with fail
      refine (eq_any _ _ _ _ N3' W3).mono ?_
      rintro e w4 ⟨rfl, n, rfl⟩
      go_wp2
      go_ret
      exact ⟨rfl, by exact below_drewN hb3 n⟩
end Go.Proofs.Ybulkatdu
