import Derived.Test.YbulkaticRng
/-
  THE PLAIN PART OF THE LAW ON 'finish': ranges are made, joined. No Go in sight.
-/
namespace Go.Proofs.Ybulkatic

/-- A drawn pair, mapped into the characters and put in order. -/
def mkR (p : Int × Int) : Int × Int := if p.2 % 1114112 < p.1 % 1114112 then (p.2 % 1114112, p.1 % 1114112) else (p.1 % 1114112, p.2 % 1114112)
/-- Each range is not empty and among the characters. -/
def Good (R : List (Int × Int)) : Prop := ∀ p ∈ R, 0 ≤ p.1 ∧ p.1 ≤ p.2 ∧ p.2 ≤ 1114111
theorem mkR_good (p : Int × Int) : 0 ≤ (mkR p).1 ∧ (mkR p).1 ≤ (mkR p).2 ∧ (mkR p).2 ≤ 1114111 := by
  unfold mkR
  split <;> simp <;> omega
theorem mk_good (L : List (Int × Int)) : Good (L.map mkR) := by
  intro p hp
  obtain ⟨q, -, rfl⟩ := List.mem_map.1 hp
  exact mkR_good q
theorem Good.at {R : List (Int × Int)} (h : Good R) {i : Nat} (hi : i < R.length) : 0 ≤ rlo R i ∧ rlo R i ≤ rhi R i ∧ rhi R i ≤ 1114111 := by
  have := h R[i] (List.getElem_mem hi)
  simpa only [rlo, rhi, List.getD_eq_getElem?_getD, List.getElem?_eq_getElem hi, Option.getD_some] using this
theorem get_eq {R : List (Int × Int)} {i : Nat} (hi : i < R.length) : R[i] = (rlo R i, rhi R i) := by
  simp only [rlo, rhi, List.getD_eq_getElem?_getD, List.getElem?_eq_getElem hi, Option.getD_some]

/-- In order of the lower ends. -/
def LoS (R : List (Int × Int)) : Prop := ∀ i j, i < j → j < R.length → rlo R i ≤ rlo R j

/-- One round of the joining. -/
def joinStep (J : List (Int × Int)) (p : Int × Int) : List (Int × Int) :=
  if 0 < J.length ∧ p.1 ≤ rhi J (J.length - 1) + 1 then J.dropLast ++ [(rlo J (J.length - 1), max (rhi J (J.length - 1)) p.2)] else J ++ [p]
def joinN (R : List (Int × Int)) : Nat → List (Int × Int)
  | 0 => []
  | k + 1 => joinStep (joinN R k) (rlo R k, rhi R k)

/-- What holds of the joined ranges. -/
def JOK (J : List (Int × Int)) : Prop := J.Pairwise (fun a b => a.2 < b.1) ∧ Good J

theorem inRs_append (A B : List (Int × Int)) (r : Int) : inRs (A ++ B) r = (inRs A r || inRs B r) := by simp [inRs]
theorem inRs_one (p : Int × Int) (r : Int) : inRs [p] r = (decide (p.1 ≤ r) && decide (r ≤ p.2)) := by simp [inRs]

theorem split_last {J : List (Int × Int)} (h : 0 < J.length) : J = J.dropLast ++ [(rlo J (J.length - 1), rhi J (J.length - 1))] := by
  have e := List.dropLast_concat_getLast (List.ne_nil_of_length_pos h)
  rw [← get_eq (by omega)]
  rw [← List.getLast_eq_getElem (List.ne_nil_of_length_pos h)]
  exact e.symm

theorem step_ok {J : List (Int × Int)} {p : Int × Int} (h : JOK J) (p0 : 0 ≤ p.1) (p1 : p.1 ≤ p.2) (p2 : p.2 ≤ 1114111) (hl : 0 < J.length → rlo J (J.length - 1) ≤ p.1) :
    JOK (joinStep J p) ∧ (∀ r, inRs (joinStep J p) r = (inRs J r || inRs [p] r)) ∧ 0 < (joinStep J p).length ∧ (joinStep J p).length ≤ J.length + 1 ∧ rlo (joinStep J p) ((joinStep J p).length - 1) ≤ p.1 := by
  unfold joinStep
  by_cases hc : 0 < J.length ∧ p.1 ≤ rhi J (J.length - 1) + 1
  · rw [if_pos hc]
    obtain ⟨hpos, hle⟩ := hc
    have hs := split_last hpos
    have hlo := hl hpos
    have hg := h.2.at (i := J.length - 1) (by omega)
    have hlen : J.dropLast.length = J.length - 1 := by simp
    generalize rlo J (J.length - 1) = a at hs hlo hg ⊢
    generalize rhi J (J.length - 1) = b at hs hle hg ⊢
    generalize J.dropLast = I at hs hlen ⊢
    rw [hs] at h
    obtain ⟨h1, h2⟩ := h
    rw [List.pairwise_append] at h1
    obtain ⟨h3, -, h4⟩ := h1
    refine ⟨⟨?_, ?_⟩, ?_, by simp, by simp; omega, ?_⟩
    · rw [List.pairwise_append]
      refine ⟨h3, by simp, fun x hx y hy => ?_⟩
      simp at hy
      subst hy
      exact h4 x hx (a, b) (by simp)
    · intro q hq
      rw [List.mem_append] at hq
      rcases hq with hq | hq
      · exact h2 q (by simp [hq])
      · simp at hq
        subst hq
        simp only
        omega
    · intro r
      rw [hs, inRs_append, inRs_append, inRs_one, inRs_one, inRs_one, Bool.or_assoc]
      congr 1
      rw [Bool.eq_iff_iff]
      simp only [Bool.or_eq_true, Bool.and_eq_true, decide_eq_true_eq]
      omega
    · have e : rlo (I ++ [(a, max b p.2)]) ((I ++ [(a, max b p.2)]).length - 1) = a := by simp [rlo, List.getD_eq_getElem?_getD]
      rw [e]; exact hlo
  · rw [if_neg hc]
    refine ⟨⟨?_, ?_⟩, ?_, by simp, by simp, ?_⟩
    · rw [List.pairwise_append]
      refine ⟨h.1, by simp, fun x hx y hy => ?_⟩
      simp at hy
      subst hy
      have hpos : 0 < J.length := List.length_pos_of_mem hx
      have hlt : rhi J (J.length - 1) + 1 < y.1 := by
        have : ¬ y.1 ≤ rhi J (J.length - 1) + 1 := fun hh => hc ⟨hpos, hh⟩
        omega
      have hs := split_last hpos
      have hg := h.2.at (i := J.length - 1) (by omega)
      generalize rlo J (J.length - 1) = a at hs hg
      generalize rhi J (J.length - 1) = b at hs hlt hg
      have h1 := h.1
      rw [hs] at h1 hx
      rw [List.pairwise_append] at h1
      rw [List.mem_append] at hx
      rcases hx with hx | hx
      · have := h1.2.2 x hx _ (List.mem_singleton.2 rfl)
        simp only at this
        omega
      · simp at hx
        subst hx
        simp only
        omega
    · intro q hq
      rw [List.mem_append] at hq
      rcases hq with hq | hq
      · exact h.2 q hq
      · simp at hq
        subst hq
        exact ⟨p0, p1, p2⟩
    · intro r
      rw [inRs_append]
    · have e : rlo (J ++ [p]) ((J ++ [p]).length - 1) = p.1 := by simp [rlo, List.getD_eq_getElem?_getD]
      rw [e]; exact Int.le_refl _

theorem joinN_ok {R : List (Int × Int)} (hg : Good R) (hs : LoS R) : ∀ k, k ≤ R.length → JOK (joinN R k) ∧ (∀ r, inRs (joinN R k) r = inRs (R.take k) r) ∧ (0 < k → 0 < (joinN R k).length) ∧ (joinN R k).length ≤ k ∧ (0 < k → rlo (joinN R k) ((joinN R k).length - 1) ≤ rlo R (k - 1))
  | 0, _ => ⟨⟨by simp [joinN], by intro p hp; simp [joinN] at hp⟩, fun r => by simp [joinN], fun h => absurd h (by omega), by simp [joinN], fun h => absurd h (by omega)⟩
  | k + 1, h => by
    obtain ⟨h1, h2, h3, h4, h5⟩ := joinN_ok hg hs k (by omega)
    have g := hg.at (i := k) (by omega)
    have hl : 0 < (joinN R k).length → rlo (joinN R k) ((joinN R k).length - 1) ≤ rlo R k := fun hp => by
      have a := h5 (by omega)
      have b := hs (k - 1) k (by omega) (by omega)
      omega
    obtain ⟨s1, s2, s3, s4, s5⟩ := step_ok (p := (rlo R k, rhi R k)) h1 g.1 g.2.1 g.2.2 hl
    refine ⟨s1, fun r => ?_, fun _ => s3, by simp only [joinN]; omega, fun _ => s5⟩
    rw [inRs_take_succ (by omega)]
    simp only [joinN]
    rw [s2, h2, inRs_one]

theorem JOK.asc {J : List (Int × Int)} (h : JOK J) : Asc J := by
  intro i hi
  refine ⟨(h.2.at hi).2.1, fun j hij hj => ?_⟩
  have := List.pairwise_iff_getElem.1 h.1 i j hi hj hij
  rw [get_eq hi, get_eq hj] at this
  exact this

theorem inRs_perm {A B : List (Int × Int)} (h : A.Perm B) (r : Int) : inRs A r = inRs B r := by
  unfold inRs
  rw [Bool.eq_iff_iff, List.any_eq_true, List.any_eq_true]
  exact ⟨fun ⟨p, hp, e⟩ => ⟨p, h.mem_iff.1 hp, e⟩, fun ⟨p, hp, e⟩ => ⟨p, h.mem_iff.2 hp, e⟩⟩
theorem good_perm {A B : List (Int × Int)} (h : A.Perm B) (g : Good A) : Good B := fun p hp => g p (h.mem_iff.2 hp)
end Go.Proofs.Ybulkatic
