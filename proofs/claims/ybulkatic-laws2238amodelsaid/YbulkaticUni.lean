/-
  THE PLAIN PART OF 'LawS2238CModel' AND 'LawS2238CRoom': the list with no name twice: no Go in sight. A member: its name, its text.
-/
namespace Go.Proofs.Ybulkatic

/-- The zero member. -/
def zp : ByteArray × ByteArray := (⟨#[]⟩, ⟨#[]⟩)
/-- The name of the i-th. -/
def nmAt (L : List (ByteArray × ByteArray)) (i : Nat) : List UInt8 := (L.getD i zp).1.toList
/-- Where the name x stands; the length where it does not. -/
def pos (U : List (ByteArray × ByteArray)) (x : List UInt8) : Nat := U.findIdx fun u => u.1.toList == x
/-- One member more. -/
def ins (U : List (ByteArray × ByteArray)) (a : ByteArray × ByteArray) : List (ByteArray × ByteArray) :=
  if pos U a.1.toList < U.length then U.set (pos U a.1.toList) ((U.getD (pos U a.1.toList) zp).1, a.2) else U ++ [a]
/-- The list with no name twice. -/
def uni (S : List (ByteArray × ByteArray)) : List (ByteArray × ByteArray) := S.foldl ins []

theorem getD_at {α : Type} {L : List α} {i : Nat} {d : α} (h : i < L.length) : L.getD i d = L[i] := by
  rw [List.getD_eq_getElem?_getD, List.getElem?_eq_getElem h]; rfl

theorem pos_le (U : List (ByteArray × ByteArray)) (x : List UInt8) : pos U x ≤ U.length := List.findIdx_le_length

theorem pos_of {U : List (ByteArray × ByteArray)} {x : List UInt8} {i : Nat} (h1 : ∀ y, y < i → nmAt U y ≠ x) (h2 : i < U.length) (h3 : nmAt U i = x) : pos U x = i := by
  unfold pos
  rw [List.findIdx_eq h2]
  refine ⟨?_, fun j hj => ?_⟩
  · have := h3; unfold nmAt at this; rw [getD_at h2] at this; simpa using this
  · have := h1 j hj; unfold nmAt at this; rw [getD_at (by omega)] at this; simpa using this

theorem pos_none {U : List (ByteArray × ByteArray)} {x : List UInt8} (h1 : ∀ y, y < U.length → nmAt U y ≠ x) : pos U x = U.length := by
  unfold pos
  rw [List.findIdx_eq_length]
  intro u hu
  obtain ⟨j, hj, rfl⟩ := List.getElem_of_mem hu
  have := h1 j hj
  unfold nmAt at this
  rw [getD_at hj] at this
  simpa using this

theorem pos_hit {U : List (ByteArray × ByteArray)} {x : List UInt8} (h : pos U x < U.length) : nmAt U (pos U x) = x := by
  unfold nmAt
  rw [getD_at h]
  have := List.findIdx_getElem (w := h)
  exact beq_iff_eq.1 this
theorem pos_before {U : List (ByteArray × ByteArray)} {x : List UInt8} {y : Nat} (h : y < pos U x) : nmAt U y ≠ x := by
  have hl := pos_le U x
  unfold nmAt
  rw [getD_at (by omega)]
  have := List.not_of_lt_findIdx h
  simpa using this

theorem uni_snoc (S : List (ByteArray × ByteArray)) (a : ByteArray × ByteArray) : uni (S ++ [a]) = ins (uni S) a := by simp [uni]
theorem uni_take {S : List (ByteArray × ByteArray)} {j : Nat} (h : j < S.length) : uni (S.take (j + 1)) = ins (uni (S.take j)) (S.getD j zp) := by
  rw [List.take_succ_eq_append_getElem h, uni_snoc, getD_at h]

theorem ins_len_hit {U : List (ByteArray × ByteArray)} {a : ByteArray × ByteArray} (h : pos U a.1.toList < U.length) : (ins U a).length = U.length := by simp [ins, h]
theorem ins_len_miss {U : List (ByteArray × ByteArray)} {a : ByteArray × ByteArray} (h : ¬ pos U a.1.toList < U.length) : (ins U a).length = U.length + 1 := by simp [ins, h]

theorem uni_len (S : List (ByteArray × ByteArray)) : ∀ j, j ≤ S.length → (uni (S.take j)).length ≤ j
  | 0, _ => by simp [uni]
  | j + 1, h => by
    have := uni_len S j (by omega)
    rw [uni_take (by omega)]
    by_cases hp : pos (uni (S.take j)) (S.getD j zp).1.toList < (uni (S.take j)).length
    · rw [ins_len_hit hp]; omega
    · rw [ins_len_miss hp]; omega

/-- The names of 'ins': those that were there, in their places. -/
theorem nm_ins_lt {U : List (ByteArray × ByteArray)} {a : ByteArray × ByteArray} {i : Nat} (h : i < U.length) : nmAt (ins U a) i = nmAt U i := by
  unfold ins nmAt
  split
  · rename_i hp
    by_cases e : pos U a.1.toList = i
    · subst e
      rw [getD_at (by simpa using h), List.getElem_set_self]
    · rw [getD_at (by simpa using h), List.getElem_set_ne e, getD_at h]
  · rw [getD_at (by simp; omega), List.getElem_append_left h, getD_at h]

/-- No name stands twice. -/
def Once (U : List (ByteArray × ByteArray)) : Prop := ∀ i j, i < j → j < U.length → nmAt U i ≠ nmAt U j

theorem once_ins {U : List (ByteArray × ByteArray)} (h : Once U) (a : ByteArray × ByteArray) : Once (ins U a) := by
  intro i j hij hj
  by_cases hp : pos U a.1.toList < U.length
  · rw [ins_len_hit hp] at hj
    rw [nm_ins_lt (by omega), nm_ins_lt hj]
    exact h i j hij hj
  · rw [ins_len_miss hp] at hj
    rw [nm_ins_lt (by omega)]
    by_cases e : j < U.length
    · rw [nm_ins_lt e]; exact h i j hij e
    · have hju : j = U.length := by omega
      have hb : i < pos U a.1.toList := by have := pos_le U a.1.toList; omega
      have h1 := pos_before hb
      have h2 : nmAt (ins U a) j = a.1.toList := by
        unfold nmAt ins
        rw [if_neg hp, hju, getD_at (by simp)]
        simp
      rw [h2]; exact h1

theorem once_uni (S : List (ByteArray × ByteArray)) : ∀ j, j ≤ S.length → Once (uni (S.take j))
  | 0, _ => by intro i j _ hj; simp [uni] at hj
  | j + 1, h => by rw [uni_take (by omega)]; exact once_ins (once_uni S j (by omega)) _

/-- A name is among the first j just if it is in the list made of them. -/
theorem mem_uni (S : List (ByteArray × ByteArray)) (x : List UInt8) : ∀ j, j ≤ S.length → ((∃ i, i < j ∧ nmAt S i = x) ↔ pos (uni (S.take j)) x < (uni (S.take j)).length)
  | 0, _ => by simp [uni, pos]
  | j + 1, h => by
    have ih := mem_uni S x j (by omega)
    rw [uni_take (by omega)]
    have key : ∀ U : List (ByteArray × ByteArray), ∀ a : ByteArray × ByteArray, (pos (ins U a) x < (ins U a).length ↔ pos U x < U.length ∨ a.1.toList = x) := by
      intro U a
      have fwd : ∀ V : List (ByteArray × ByteArray), (pos V x < V.length ↔ ∃ i, i < V.length ∧ nmAt V i = x) := by
        intro V
        constructor
        · intro hp; exact ⟨_, hp, pos_hit hp⟩
        · rintro ⟨i, hi, he⟩
          rcases Nat.lt_or_ge i (pos V x) with hx | hx
          · exact absurd he (pos_before hx)
          · omega
      rw [fwd, fwd]
      constructor
      · rintro ⟨i, hi, he⟩
        by_cases hi' : i < U.length
        · rw [nm_ins_lt hi'] at he; exact .inl ⟨i, hi', he⟩
        · right
          by_cases hp : pos U a.1.toList < U.length
          · rw [ins_len_hit hp] at hi; omega
          · rw [ins_len_miss hp] at hi
            have : i = U.length := by omega
            subst this
            rw [← he]
            unfold nmAt ins
            rw [if_neg hp, getD_at (by simp)]
            simp
      · rintro (⟨i, hi, he⟩ | he)
        · refine ⟨i, ?_, by rw [nm_ins_lt hi]; exact he⟩
          by_cases hp : pos U a.1.toList < U.length
          · rw [ins_len_hit hp]; exact hi
          · rw [ins_len_miss hp]; omega
        · by_cases hp : pos U a.1.toList < U.length
          · exact ⟨pos U a.1.toList, by rw [ins_len_hit hp]; exact hp, by rw [nm_ins_lt hp, pos_hit hp]; exact he⟩
          · refine ⟨U.length, by rw [ins_len_miss hp]; omega, ?_⟩
            rw [← he]
            unfold nmAt ins
            rw [if_neg hp, getD_at (by simp)]
            simp
    rw [key, ← ih]
    constructor
    · rintro ⟨i, hi, he⟩
      by_cases e : i = j
      · subst e; exact .inr he
      · exact .inl ⟨i, by omega, he⟩
    · rintro (⟨i, hi, he⟩ | he)
      · exact ⟨i, by omega, he⟩
      · exact ⟨j, by omega, he⟩

/-- The text that stands last under the name of the j-th, as far as the first m tell. -/
def lastTo (S : List (ByteArray × ByteArray)) (j : Nat) : Nat → ByteArray
  | 0 => (S.getD j zp).2
  | m + 1 => if j < m ∧ nmAt S m = nmAt S j then (S.getD m zp).2 else lastTo S j m

theorem lastTo_low (S : List (ByteArray × ByteArray)) (j : Nat) : ∀ m, m ≤ j + 1 → lastTo S j m = (S.getD j zp).2
  | 0, _ => rfl
  | m + 1, h => by
    rw [lastTo, if_neg (by omega)]
    exact lastTo_low S j m (by omega)

/-- WHAT STANDS AT THE PLACE OF A FIRST: its name, and the text that stands last. -/
theorem uni_first (S : List (ByteArray × ByteArray)) (j : Nat) (hj : j < S.length) (hf : ∀ i, i < j → nmAt S i ≠ nmAt S j) : ∀ m, j < m → m ≤ S.length →
    (uni (S.take j)).length < (uni (S.take m)).length ∧ (uni (S.take m)).getD (uni (S.take j)).length zp = ((S.getD j zp).1, lastTo S j m)
  | 0, h, _ => absurd h (by omega)
  | m + 1, h, hm => by
    have hmiss : ¬ pos (uni (S.take j)) (S.getD j zp).1.toList < (uni (S.take j)).length := by
      intro hp
      obtain ⟨i, hi, he⟩ := (mem_uni S (S.getD j zp).1.toList j (by omega)).2 hp
      exact hf i hi he
    by_cases e : m = j
    · subst e
      rw [uni_take hj]
      refine ⟨by rw [ins_len_miss hmiss]; omega, ?_⟩
      rw [lastTo_low S m (m + 1) (Nat.le_refl _)]
      unfold ins
      rw [if_neg hmiss, getD_at (by simp)]
      simp
    · obtain ⟨ih1, ih2⟩ := uni_first S j hj hf m (by omega) (by omega)
      have hon := once_uni S m (by omega)
      rw [uni_take (j := m) (by omega)]
      generalize hU : uni (S.take m) = U at ih1 ih2 hon
      generalize (uni (S.take j)).length = k at ih1 ih2
      have hname : nmAt U k = nmAt S j := by unfold nmAt; rw [ih2]
      have hlen : k < (ins U (S.getD m zp)).length := by
        by_cases hp : pos U (S.getD m zp).1.toList < U.length
        · rw [ins_len_hit hp]; exact ih1
        · rw [ins_len_miss hp]; omega
      refine ⟨hlen, ?_⟩
      by_cases hsame : nmAt S m = nmAt S j
      · have hp : pos U (S.getD m zp).1.toList = k := by
          refine pos_of (fun y hy he => ?_) ih1 ?_
          · exact hon y k hy ih1 (by rw [he, hname]; exact hsame)
          · rw [hname]; exact hsame.symm
        rw [lastTo, if_pos ⟨by omega, hsame⟩]
        unfold ins
        rw [if_pos (by rw [hp]; exact ih1), hp, getD_at (by simpa using ih1), List.getElem_set_self, ih2]
      · rw [lastTo, if_neg (fun h => hsame h.2), ← ih2]
        unfold ins
        split
        · rename_i hp
          have hne : pos U (S.getD m zp).1.toList ≠ k := by
            intro he
            have := pos_hit hp
            rw [he, hname] at this
            exact hsame this.symm
          rw [getD_at (by simpa using ih1), List.getElem_set_ne hne, getD_at ih1]
        · rw [getD_at (by simp; omega), List.getElem_append_left ih1, getD_at ih1]
end Go.Proofs.Ybulkatic
