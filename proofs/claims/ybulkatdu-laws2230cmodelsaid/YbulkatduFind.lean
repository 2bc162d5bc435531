import Derived.Test.YbulkatduGraph
import Derived.Test.YbulkatduShelf
namespace Go.Proofs.Ybulkatdu
open Go.RowKit
set_option linter.unusedSimpArgs false

theorem tc_head (w : World) (i : Nat) (h : Int) : (w.alloc (.cells (tc i h).toArray 38)).cell? ⟨w.heap.size, 0, none⟩ = some (.string (nm i)) := by
  rw [cell_of_row _ _ _ _ _ _ (heap_alloc_new _ _)]; rfl

/-- The closure that 'lookup' hands to the search. -/
theorem cmp_any (i : Nat) (h : Int) (q : Nat) (w : World) :
    Calls Yba.prog 15 #[.agg (tc i h).toArray, .string (nm q)] w fun e w' => e = .returned (.int .i64 (Lib.compareBytes (nmL i) (nmL q))) ∧ w' = w.alloc (.cells (tc i h).toArray 38) := by
  have hc := tc_head w i h
  go_enter Yba.func15, Yba.ntmps15
  go_wp2_with (go_at_call 16; refine (Yba.strings_Compare _ _ _).mono ?_; rw [nm_toList, nm_toList]; rintro e w' ⟨rfl, rfl⟩)
  go_ret
  exact ⟨rfl, rfl⟩

/-- The slice value v leads to the targets with the numbers L. -/
def TRow (w : World) (v : Value) (L : List Nat) (hf : Nat → Int) : Prop :=
  L.length ≤ 8 ∧ ((v = .slice none 0 0 ∧ L = []) ∨ ∃ g cap, v = .slice (some ⟨g, 0, none⟩) L.length cap ∧ g < w.heap.size ∧ ∀ j, j < L.length → w.rangeAt g (j * 35) (tc (L.getD j 0) (hf (L.getD j 0))))

theorem sorted_getD {L : List Nat} (hL : L.Pairwise (· < ·)) {i j : Nat} (hij : i < j) (hj : j < L.length) : L.getD i 0 < L.getD j 0 := by
  rw [List.getD_eq_getElem?_getD, List.getD_eq_getElem?_getD, List.getElem?_eq_getElem hj, List.getElem?_eq_getElem (by omega)]
  exact List.pairwise_iff_getElem.1 hL i j (by omega) hj hij
theorem getD_mem {L : List Nat} {j : Nat} (hj : j < L.length) : L.getD j 0 ∈ L := by
  rw [List.getD_eq_getElem?_getD, List.getElem?_eq_getElem hj]; simp
/-- Where a search that parts the list at a ends. -/
theorem part_mem {L : List Nat} {a q : Nat} (H1 : ∀ x, x < a → L.getD x 0 < q) (H2 : ∀ x, a ≤ x → x < L.length → q ≤ L.getD x 0) (hL : L.Pairwise (· < ·)) :
    (L.contains q = true ↔ a < L.length ∧ L.getD a 0 = q) := by
  rw [List.contains_iff_mem]
  constructor
  · intro h
    obtain ⟨i, hi, he⟩ := List.getElem_of_mem h
    have e : L.getD i 0 = q := by rw [List.getD_eq_getElem?_getD, List.getElem?_eq_getElem hi]; exact he
    have h1 : a ≤ i := by
      rcases Nat.lt_or_ge i a with hx | hx
      · have := H1 i hx; omega
      · exact hx
    have h2 := H2 a (Nat.le_refl _) (by omega)
    rcases Nat.lt_or_ge a i with hx | hx
    · have := sorted_getD hL hx hi; omega
    · have : a = i := by omega
      subst this; exact ⟨hi, e⟩
  · rintro ⟨h1, h2⟩
    rw [← h2]; exact getD_mem h1

theorem find_any (v : Value) (L : List Nat) (hf : Nat → Int) (q : Nat) (w : World) (hv : TRow w v L hf) (hL : L.Pairwise (· < ·)) (hq : q < 8) (h8 : ∀ i ∈ L, i < 8) :
    Calls Yba.prog 14 #[v, .string (nm q), .func (.func 15) #[] #[]] w fun e w' => ∃ pos : Nat, e = .returned (.tuple #[.int .i64 pos, .bool (L.contains q)]) ∧ (L.contains q = true → L.getD pos 0 = q ∧ pos < L.length) ∧ Below w.heap.size w w' := by
  obtain ⟨hl, hv⟩ := hv
  rcases hv with ⟨rfl, rfl⟩ | ⟨g, cap, rfl, hg, hc⟩
  · go_enter Yba.func14, Yba.ntmps14
    go_wp2
    refine wp_loop_rounds 1 ?_; rw [rounds_succ]
    go_wp2
    go_ret2
    exact ⟨0, rfl, by simp, Below.refl _ _⟩
  · obtain ⟨n, hn⟩ : ∃ n, n = L.length := ⟨_, rfl⟩
    rw [← hn] at hc hl ⊢
    have HN : Hid (n = L.length) := hn
    clear hn
    go_enter Yba.func14, Yba.ntmps14
    go_wp2
    go_loopw [9, 10] (fun i j wr => ∃ a b : Nat, a ≤ b ∧ b ≤ n ∧ i = .int .i64 a ∧ j = .int .i64 b ∧ (∀ x, x < a → L.getD x 0 < q) ∧ (∀ x, b ≤ x → x < n → q ≤ L.getD x 0) ∧ Below w.heap.size w wr) (fun i j _ => (intOf j).toNat - (intOf i).toNat)
    case atStart => exact ⟨0, n, Nat.zero_le _, Nat.le_refl _, rfl, rfl, fun x hx => absurd hx (by omega), fun x h1 h2 => absurd h2 (by omega), Below.refl _ _⟩
    case round =>
      obtain ⟨a, b, hab, hbn, rfl, rfl, H1, H2, hb⟩ := hrel
      by_cases hlt : a < b
      · have hm : (a + b) / 2 < n := by omega
        have hr := rangeAt_below hb hg (hc _ hm)
        obtain ⟨x, hx⟩ : ∃ x, x = L.getD ((a + b) / 2) 0 := ⟨_, rfl⟩
        rw [← hx] at hr
        have hx8 : x < 8 := by
          rw [hx]
          have hm' : (a + b) / 2 < L.length := by rw [← HN.out]; exact hm
          apply h8
          simp [List.getD_eq_getElem?_getD, hm']
        have HX : Hid (x = L.getD ((a + b) / 2) 0) := hx
        clear hx
        by_cases hxq : x < q
        · have hcmp := (cmp_nm x hx8 q hq).1.2 hxq
          have R1 : ∀ y, y < (a + b) / 2 + 1 → L.getD y 0 < q := by
            intro y hy
            have e := HX.out
            rcases Nat.lt_or_ge y ((a + b) / 2) with h | h
            · have := sorted_getD hL h (by rw [← HN.out]; exact hm); omega
            · have : y = (a + b) / 2 := by omega
              rw [this]; omega
          clear hc H1
          go_wp2_with (first
            | (refine wpList_load_mid rfl 38 _ rfl g _ rfl (tc x (hf x)) _ hr Yba.underlying38 rfl Yba.size38 ?_)
            | (go_at_call 15; refine (cmp_any _ _ _ _).mono ?_; rintro e w' ⟨rfl, rfl⟩))
          go_roundw
          case rel => exact ⟨(a + b) / 2 + 1, b, by omega, hbn, by go_num, rfl, R1, H2, hb.alloc hb.size _⟩
          case measure => simp [intOf]; omega
        · have hcmp : ¬ Lib.compareBytes (nmL x) (nmL q) < 0 := fun hh => hxq ((cmp_nm x hx8 q hq).1.1 hh)
          have R2 : ∀ y, (a + b) / 2 ≤ y → y < n → q ≤ L.getD y 0 := by
            intro y hy hyn
            have e := HX.out
            rcases Nat.lt_or_ge ((a + b) / 2) y with h | h
            · have := sorted_getD hL h (by rw [← HN.out]; exact hyn); omega
            · have : y = (a + b) / 2 := by omega
              rw [this]; omega
          clear hc H2
          go_wp2_with (first
            | (refine wpList_load_mid rfl 38 _ rfl g _ rfl (tc x (hf x)) _ hr Yba.underlying38 rfl Yba.size38 ?_)
            | (go_at_call 15; refine (cmp_any _ _ _ _).mono ?_; rintro e w' ⟨rfl, rfl⟩))
          go_roundw
          case rel => exact ⟨a, (a + b) / 2, by omega, by omega, rfl, by go_num, H1, R2, hb.alloc hb.size _⟩
          case measure => simp [intOf]; omega
      · obtain rfl : a = b := by omega
        have hmem := part_mem H1 (by rw [← HN.out]; exact H2) hL
        rw [← HN.out] at hmem
        have HM : Hid (L.contains q = true ↔ a < n ∧ L.getD a 0 = q) := hmem
        clear hmem H1 H2
        by_cases han : a < n
        · have hr := rangeAt_below hb hg (hc _ han)
          obtain ⟨x, hx⟩ : ∃ x, x = L.getD a 0 := ⟨_, rfl⟩
          rw [← hx] at hr
          have hx8 : x < 8 := by
            rw [hx]; exact h8 _ (getD_mem (by rw [← HN.out]; exact han))
          have HX : Hid (x = L.getD a 0) := hx
          clear hx
          by_cases hxq : x = q
          · have hcmp : (Lib.compareBytes (nmL x) (nmL q) == 0) = true := by simpa using (cmp_nm x hx8 q hq).2.2 hxq
            have HQ : Hid (x = q) := hxq
            clear hxq hc
            go_wp2_with (first
              | (refine wpList_load_mid_if rfl 38 _ rfl g _ rfl (tc x (hf x)) _ hr Yba.underlying38 rfl Yba.size38 ?_)
              | (go_at_call 15; refine (cmp_any _ _ _ _).mono ?_; rintro e w' ⟨rfl, rfl⟩))
            go_ret2
            have hct : L.contains q = true := HM.out.2 ⟨han, by rw [← HX.out]; exact HQ.out⟩
            exact ⟨a, by rw [hct]; rfl, fun _ => ⟨by rw [← HX.out]; exact HQ.out, han⟩, hb.alloc hb.size _⟩
          · have hcmp : (Lib.compareBytes (nmL x) (nmL q) == 0) = false := by
              have := (cmp_nm x hx8 q hq).2
              simp [this, hxq]
            have hct : L.contains q = false := by
              cases hh : L.contains q with
              | false => rfl
              | true => exact absurd (HX.out.trans (HM.out.1 hh).2) hxq
            have HC : Hid (L.contains q = false) := hct
            clear hxq hc hct
            go_wp2_with (first
              | (refine wpList_load_mid_if rfl 38 _ rfl g _ rfl (tc x (hf x)) _ hr Yba.underlying38 rfl Yba.size38 ?_)
              | (go_at_call 15; refine (cmp_any _ _ _ _).mono ?_; rintro e w' ⟨rfl, rfl⟩))
            go_ret2
            exact ⟨a, by rw [HC.out]; rfl, fun h => absurd h (by rw [HC.out]; simp), hb.alloc hb.size _⟩
        · have hct : L.contains q = false := by
            cases hh : L.contains q with
            | false => rfl
            | true => exact absurd (HM.out.1 hh).1 han
          have HC : Hid (L.contains q = false) := hct
          clear hct hc
          go_wp2
          go_ret2
          exact ⟨a, by rw [HC.out]; rfl, fun h => absurd h (by rw [HC.out]; simp), hb⟩
end Go.Proofs.Ybulkatdu
