import Derived.Test.YbulkaticRanges
import Derived.Test.YbulkaticJoin
import Derived.Deep.DeepCutAuto
namespace Go.Proofs.Ybulkatic
open Go.RowKit

/-- A slice of drawn pairs that came in. -/
def IsPairs (w : World) (a : Option Addr) (len : Nat) (S : List (Int × Int)) : Prop :=
  S.length = len ∧ (∀ p ∈ S, 0 ≤ p.1 ∧ p.1 ≤ 4294967295 ∧ 0 ≤ p.2 ∧ p.2 ≤ 4294967295) ∧ (0 < len → ∃ b off, a = some ⟨b, off, none⟩ ∧ b < w.heap.size ∧ ∀ i, i < len → w.cell? ⟨b, off + i * 2, none⟩ = some (.int .u32 (rlo S i)) ∧ w.cell? ⟨b, off + i * 2 + 1, none⟩ = some (.int .u32 (rhi S i)))

theorem IsPairs.later {w w' : World} {a : Option Addr} {len : Nat} {S : List (Int × Int)} (h : IsPairs w a len S) (hb : Below w.heap.size w w') : IsPairs w' a len S := by
  refine ⟨h.1, h.2.1, fun hp => ?_⟩
  obtain ⟨b, off, e, hlt, hc⟩ := h.2.2 hp
  refine ⟨b, off, e, Nat.lt_of_lt_of_le hlt hb.size, fun i hi => ?_⟩
  rw [hb.cell (by exact hlt), hb.cell (by exact hlt)]
  exact hc i hi

theorem take_map_succ {S : List (Int × Int)} {k : Nat} (h : k < S.length) : (S.take (k + 1)).map mkR = (S.take k).map mkR ++ [mkR (rlo S k, rhi S k)] := by
  rw [List.take_succ_eq_append_getElem h, List.map_append, get_eq h]; rfl

set_option maxRecDepth 100000 in
theorem amk_any (a : Option Addr) (n cap : Nat) (S : List (Int × Int)) (w : World) (hS : IsPairs w a n S) (hn2 : n ≤ 1024) :
    Calls Yba.prog 9 #[.slice a n cap] w fun e w' => ∃ v, e = .returned v ∧ v ≠ .slice none 0 0 ∧ w'.ownsRow w.heap.size 36 2 v n (rcs (S.map mkR)) ∧ Below w.heap.size w w' := by
  obtain ⟨i0, hi0, hz0, hz1, hz2⟩ := info_parts Yba.info36
  obtain ⟨hl, hbd, hc⟩ := hS
  have HL : Hid (S.length = n) := hl
  have HB : Hid (∀ i, i < n → 0 ≤ rlo S i ∧ rlo S i ≤ 4294967295 ∧ 0 ≤ rhi S i ∧ rhi S i ≤ 4294967295) := fun i hi => by
    have := hbd S[i] (List.getElem_mem (by omega))
    rw [get_eq (by omega)] at this
    exact this
  have HS : Hid (∀ i, i < n → ∃ b off, a = some ⟨b, off, none⟩ ∧ b < w.heap.size ∧ w.cell? ⟨b, off + i * 2, none⟩ = some (.int .u32 (rlo S i)) ∧ w.cell? ⟨b, off + i * 2 + 1, none⟩ = some (.int .u32 (rhi S i))) := fun i hi => by
    obtain ⟨b, off, e, hb, h⟩ := hc (by omega)
    exact ⟨b, off, e, hb, h i hi⟩
  clear hl hbd hc
  go_enter Yba.func9, Yba.ntmps9
  go_wp2_with (at_make; refine wpList_make_own _ rfl _ _ 24 rfl w.heap.size 36 i0 (.agg #[.int .i32 0, .int .i32 0]) 2 Yba.underlying24 hi0 hz0 hz1 .i64 .i64 _ n rfl rfl rfl (by rw [hz2]; omega) (by unfold maxLen; omega) (Nat.le_refl _) ?_; intro w1 hown1 hgrow1)
  have hb1 : Below w.heap.size w w1 := (Below.refl _ _).grown hgrow1 (Nat.le_refl _) (fun k hk => by cases hk)
  clear hgrow1
  go_loopw [3, 13] (fun v i wr => ∃ k : Nat, k ≤ n ∧ i = .int .i64 k ∧ Hid (v ≠ .slice none 0 0) ∧ wr.ownsRow w.heap.size 36 2 v k (rcs ((S.take k).map mkR)) ∧ Below w.heap.size w wr) (fun _ i _ => n - (intOf i).toNat)
  case atStart => exact ⟨0, Nat.zero_le _, rfl, fun h => by simp at h, hown1, hb1⟩
  case round =>
    clear hown1 hb1
    obtain ⟨k, hk, rfl, hnn, hown, hb⟩ := hrel
    by_cases hlt : k < n
    · obtain ⟨b, off, rfl, hb0, c0, c1⟩ := HS.out k hlt
      rw [← hb.cell (by exact hb0)] at c0 c1
      obtain ⟨x0, hx0⟩ : ∃ x0, x0 = rlo S k := ⟨_, rfl⟩
      obtain ⟨x1, hx1⟩ : ∃ x1, x1 = rhi S k := ⟨_, rfl⟩
      have bd := HB.out k hlt
      rw [← hx0] at c0 bd
      rw [← hx1] at c1 bd
      obtain ⟨b1, b2, b3, b4⟩ := bd
      have HE : Hid (x0 = rlo S k ∧ x1 = rhi S k) := ⟨hx0, hx1⟩
      clear hx0 hx1
      by_cases hsw : x1 % 1114112 < x0 % 1114112
      · have HM : Hid (mkR (x0, x1) = (x1 % 1114112, x0 % 1114112)) := if_pos hsw
        go_upto_region 9 with fail
        obtain ⟨W1, hW1⟩ : ∃ W1, W1 = wr.alloc (.cells #[.int .u32 x0, .int .u32 x1] 68) := ⟨_, rfl⟩
        have hown1 := hown.alloc (.cells #[.int .u32 x0, .int .u32 x1] 68)
        have hb1 : Below w.heap.size w (wr.alloc (.cells #[.int .u32 x0, .int .u32 x1] 68)) := hb.alloc hb.size _
        rw [← hW1] at hown1 hb1 ⊢
        clear hown hb hW1 c0 c1
        go_wp2_with (at_builtin; refine wpList_append_own _ rfl _ _ 24 rfl w.heap.size 36 i0 _ 2 8 Yba.underlying24 hi0 hz0 hz1 hz2 rfl (by decide) _ _ _ rfl (hown1.alloc _) ⟨W1.heap.size, 0, none⟩ 1 1 [.int .i32 (x1 % 1114112), .int .i32 (x0 % 1114112)] rfl rfl (World.news_of_block (cs := #[.int .i32 (x1 % 1114112), .int .i32 (x0 % 1114112)]) (t := 36) (fr := (0, 0)) (heap_alloc_new W1 _)) (by simp [Value.oneCell']) (by unfold maxLen; omega) (by omega) (by have := hb1.size; simp; omega) ?_; intro v' w2 hown2 hgrow2 hne; replace hne : Hid (v' ≠ .slice none 0 0) := fun h => absurd (hne.1 h).2 (by omega))
        have hb2 : Below w.heap.size w w2 := (hb1.alloc hb1.size _).grown hgrow2 (by have := hb1.size; simp; omega) (own_ge hown1)
        go_roundw
        case rel =>
          obtain ⟨e1, e2⟩ := HE.out
          refine ⟨k + 1, by omega, by go_num, hne, ?_, hb2⟩
          rw [take_map_succ (by rw [HL.out]; exact hlt), rcs_snoc, ← e1, ← e2, HM.out]
          exact hown2
        case measure => simp [intOf]; omega
      · have HM : Hid (mkR (x0, x1) = (x0 % 1114112, x1 % 1114112)) := if_neg hsw
        go_upto_region 9 with fail
        obtain ⟨W1, hW1⟩ : ∃ W1, W1 = wr.alloc (.cells #[.int .u32 x0, .int .u32 x1] 68) := ⟨_, rfl⟩
        have hown1 := hown.alloc (.cells #[.int .u32 x0, .int .u32 x1] 68)
        have hb1 : Below w.heap.size w (wr.alloc (.cells #[.int .u32 x0, .int .u32 x1] 68)) := hb.alloc hb.size _
        rw [← hW1] at hown1 hb1 ⊢
        clear hown hb hW1 c0 c1
        go_wp2_with (at_builtin; refine wpList_append_own _ rfl _ _ 24 rfl w.heap.size 36 i0 _ 2 8 Yba.underlying24 hi0 hz0 hz1 hz2 rfl (by decide) _ _ _ rfl (hown1.alloc _) ⟨W1.heap.size, 0, none⟩ 1 1 [.int .i32 (x0 % 1114112), .int .i32 (x1 % 1114112)] rfl rfl (World.news_of_block (cs := #[.int .i32 (x0 % 1114112), .int .i32 (x1 % 1114112)]) (t := 36) (fr := (0, 0)) (heap_alloc_new W1 _)) (by simp [Value.oneCell']) (by unfold maxLen; omega) (by omega) (by have := hb1.size; simp; omega) ?_; intro v' w2 hown2 hgrow2 hne; replace hne : Hid (v' ≠ .slice none 0 0) := fun h => absurd (hne.1 h).2 (by omega))
        have hb2 : Below w.heap.size w w2 := (hb1.alloc hb1.size _).grown hgrow2 (by have := hb1.size; simp; omega) (own_ge hown1)
        go_roundw
        case rel =>
          obtain ⟨e1, e2⟩ := HE.out
          refine ⟨k + 1, by omega, by go_num, hne, ?_, hb2⟩
          rw [take_map_succ (by rw [HL.out]; exact hlt), rcs_snoc, ← e1, ← e2, HM.out]
          exact hown2
        case measure => simp [intOf]; omega
    · have e : k = n := by omega
      subst e
      go_wp2
      go_ret
      refine ⟨_, rfl, hnn.out, ?_, hb⟩
      rw [List.take_of_length_le (by rw [HL.out]; exact Nat.le_refl _)] at hown
      exact hown
end Go.Proofs.Ybulkatic
