import Derived.Test.YbulkaticRows
import Derived.Test.YbulkaticRng
import Derived.Test.YbulkaticMem
import Derived.WalkSpells
import Derived.Outline
import Derived.Deep.QuietTactic
import Derived.BigQuiet
import Derived.OpenShut
import Derived.WalkSmall
import Derived.Deep.AppendLies
namespace Go.Proofs.Ybulkatic
open Go.RowKit

/-- A slice of integers that came in. -/
def IsRow (k : IntKind) (w : World) (a : Option Addr) (len cap : Nat) (zs : List Int) : Prop :=
  (a = none ∧ len = 0 ∧ cap = 0 ∧ zs = []) ∨
  ∃ x, a = some x ∧ len ≤ cap ∧ cap ≤ maxLen ∧ zs.length = cap ∧ (∀ i, i < zs.length → w.cell? (x.add i) = some (.int k (zs.getD i 0))) ∧ ∀ n ∈ zs, (Lit.int k n).wf = true

/-- In one form. -/
theorem IsRow.shape {k : IntKind} {w : World} {a : Option Addr} {len cap : Nat} {zs : List Int} (h : IsRow k w a len cap zs) :
    len ≤ 9223372036854775807 ∧ (∀ n ∈ zs, (Lit.int k n).wf = true) ∧ (0 < len → ∃ b off, a = some ⟨b, off, none⟩ ∧ b < w.heap.size ∧ ∀ i, i < len → w.cell? ⟨b, off + i, none⟩ = some (.int k (zs.getD i 0))) := by
  rcases h with ⟨rfl, rfl, rfl, rfl⟩ | ⟨x, rfl, hl, hm, hz, hc, hw⟩
  · exact ⟨by omega, by simp, fun h => absurd h (by omega)⟩
  · unfold maxLen at hm
    refine ⟨by omega, hw, fun hp => ?_⟩
    obtain ⟨b, off, rfl, hc'⟩ := ints_at hc (by omega)
    exact ⟨b, off, rfl, by have := block_lt_of_cell (hc' 0 (by omega)); exact this, fun i hi => hc' i (by omega)⟩

/-- The cells of ranges. -/
def rcs (R : List (Int × Int)) : List Value := R.flatMap fun p => [.int .i32 p.1, .int .i32 p.2]
theorem rcs_snoc (R : List (Int × Int)) (p : Int × Int) : rcs (R ++ [p]) = rcs R ++ [.int .i32 p.1, .int .i32 p.2] := by simp [rcs]
theorem rcs_len (R : List (Int × Int)) : (rcs R).length = R.length * 2 := by
  induction R with
  | nil => rfl
  | cons p R ih => simp only [rcs, List.flatMap_cons, List.length_append] at *; rw [ih]; simp; omega
theorem rcs_at : ∀ (R : List (Int × Int)) (i : Nat), i < R.length → (rcs R)[i * 2]? = some (.int .i32 (rlo R i)) ∧ (rcs R)[i * 2 + 1]? = some (.int .i32 (rhi R i))
  | [], i, h => by simp at h
  | p :: R, 0, _ => by simp [rcs, rlo, rhi]
  | p :: R, i + 1, h => by
    have := rcs_at R i (by simpa using h)
    have e1 : rlo (p :: R) (i + 1) = rlo R i := by simp [rlo]
    have e2 : rhi (p :: R) (i + 1) = rhi R i := by simp [rhi]
    rw [e1, e2]
    simp only [rcs, List.flatMap_cons]
    rw [List.getElem?_append_right (by simp; omega), List.getElem?_append_right (by simp; omega)]
    simp only [List.length_cons, List.length_nil]
    rw [show (i + 1) * 2 - (0 + 1 + 1) = i * 2 by omega, show (i + 1) * 2 + 1 - (0 + 1 + 1) = i * 2 + 1 by omega]
    exact this

/-- The slice value v leads to the ranges R. -/
def RRow (w : World) (v : Value) (R : List (Int × Int)) : Prop :=
  ∃ ao cap, v = .slice ao R.length cap ∧ (0 < R.length → ∃ g, ao = some ⟨g, 0, none⟩ ∧ g < w.heap.size ∧ ∀ i, i < R.length → w.cell? ⟨g, i * 2, none⟩ = some (.int .i32 (rlo R i)) ∧ w.cell? ⟨g, i * 2 + 1, none⟩ = some (.int .i32 (rhi R i)))

theorem RRow.later {w w' : World} {v : Value} {R : List (Int × Int)} (h : RRow w v R) (hb : Below w.heap.size w w') : RRow w' v R := by
  obtain ⟨ao, cap, h1, h2⟩ := h
  refine ⟨ao, cap, h1, fun hp => ?_⟩
  obtain ⟨g, e, hg, hc⟩ := h2 hp
  refine ⟨g, e, Nat.lt_of_lt_of_le hg hb.size, fun i hi => ?_⟩
  obtain ⟨c1, c2⟩ := hc i hi
  exact ⟨by rw [hb.cell (by exact hg)]; exact c1, by rw [hb.cell (by exact hg)]; exact c2⟩

theorem rrow_of {w : World} {base : Nat} {v : Value} {R : List (Int × Int)} (h : w.ownsRow base 36 2 v R.length (rcs R)) : RRow w v R := by
  rcases id h.2 with ⟨rfl, h0⟩ | ⟨g, cap, cur, rfl, hg, hh, -⟩
  · exact ⟨none, 0, by rw [h0], fun hp => absurd hp (by omega)⟩
  · refine ⟨some ⟨g, 0, none⟩, cap, rfl, fun _ => ⟨g, rfl, ?_, fun i hi => ?_⟩⟩
    · rcases Nat.lt_or_ge g w.heap.size with hx | hx
      · exact hx
      · rw [Array.getElem?_eq_none hx] at hh; cases hh
    · obtain ⟨e1, e2⟩ := rcs_at R i hi
      have c1 := h.cells (g := g) rfl _ _ e1
      have c2 := h.cells (g := g) rfl _ _ e2
      rw [Addr.add_mid] at c1 c2
      rw [Nat.zero_add] at c1 c2
      exact ⟨c1, c2⟩

theorem Yba.info36 : (Yba.prog.info? 36).map (fun i => (i.zero, i.size, i.bytes)) = some (some (.agg #[.int .i32 0, .int .i32 0]), 2, 8) := by kernel_rfl

theorem own_ge {w : World} {base : Nat} {e : TypeId} {size : Nat} {v : Value} {n : Nat} {xs : List Value} (h : w.ownsRow base e size v n xs) : ∀ k, v.ownBlock = some k → base ≤ k := by
  intro k hk
  rcases h.2 with ⟨rfl, -⟩ | ⟨g, cap, cur, rfl, hg, -⟩
  · simp [Value.ownBlock] at hk
  · simp [Value.ownBlock] at hk; omega

/-- The loop of 'zzs2238branges', n known. -/
theorem brng_any (a0 : Option Addr) (len0 cap0 : Nat) (z0 : List Int) (a1 : Option Addr) (len1 cap1 : Nat) (z1 : List Int) (w : World) (r0 : IsRow .u16 w a0 len0 cap0 z0) (r1 : IsRow .u8 w a1 len1 cap1 z1) (n : Nat) (hle0 : n ≤ len0) (hle1 : n ≤ len1) (hn : n = len0 ∨ n = len1) (hn2 : n ≤ 1024) :
    Calls Yba.prog 12 #[.slice a0 len0 cap0, .slice a1 len1 cap1] w fun e w' => ∃ v, e = .returned v ∧ RRow w' v (rngs z0 z1 n) ∧ Below w.heap.size w w' := by
  obtain ⟨i0, hi0, hz0, hz1, hz2⟩ := info_parts Yba.info36
  obtain ⟨l0, wf0, s0⟩ := r0.shape
  obtain ⟨l1, wf1, s1⟩ := r1.shape
  have HB0 : Hid (∀ j, 0 ≤ z0.getD j 0 ∧ z0.getD j 0 ≤ 65535) := fun j => range_u16 wf0 j
  have HB1 : Hid (∀ j, 0 ≤ z1.getD j 0 ∧ z1.getD j 0 ≤ 255) := fun j => range_u8 wf1 j
  have HNB : Hid (∀ k, 0 ≤ nextR z0 z1 k ∧ nextR z0 z1 k ≤ 65791 * (k : Int)) := nextR_bd (z0 := z0) (z1 := z1) HB0.out HB1.out
  have HS0 : Hid (∀ i, i < n → ∃ b off, a0 = some ⟨b, off, none⟩ ∧ w.cell? ⟨b, off + i, none⟩ = some (.int .u16 (z0.getD i 0)) ∧ b < w.heap.size) := fun i hi => by
    obtain ⟨b, off, e, hb, hc⟩ := s0 (by omega)
    exact ⟨b, off, e, hc i (by omega), hb⟩
  have HS1 : Hid (∀ i, i < n → ∃ b off, a1 = some ⟨b, off, none⟩ ∧ w.cell? ⟨b, off + i, none⟩ = some (.int .u8 (z1.getD i 0)) ∧ b < w.heap.size) := fun i hi => by
    obtain ⟨b, off, e, hb, hc⟩ := s1 (by omega)
    exact ⟨b, off, e, hc i (by omega), hb⟩
  have hmin : Hid (n = len0 ∨ n = len1) := hn
  clear s0 s1 wf0 wf1 r0 r1 hn
  by_cases hc : len1 < len0
  case' pos =>
    have e1 : n = len1 := by have := hmin.out; omega
    subst e1
    have hc' : (n : Int) < (len0 : Int) := by omega
  case' neg =>
    have e1 : n = len0 := by have := hmin.out; omega
    subst e1
    have hc' : ¬ (len1 : Int) < (n : Int) := by omega
  all_goals
    clear hmin
    go_enter Yba.func12, Yba.ntmps12
    go_wp2_with (at_make; refine wpList_make_own _ rfl _ _ 24 rfl w.heap.size 36 i0 (.agg #[.int .i32 0, .int .i32 0]) 2 Yba.underlying24 hi0 hz0 hz1 .i64 .i64 _ n rfl rfl rfl (by rw [hz2]; omega) (by unfold maxLen; omega) (Nat.le_refl _) ?_; intro w1 hown1 hgrow1)
    have hb1 : Below w.heap.size w w1 := (Below.refl _ _).grown hgrow1 (Nat.le_refl _) (fun k hk => by cases hk)
    clear hgrow1
    go_loopw [6, 7, 8] (fun v nx i wr => ∃ k : Nat, k ≤ n ∧ i = .int .i64 k ∧ nx = .int .i32 (nextR z0 z1 k) ∧ wr.ownsRow w.heap.size 36 2 v (rngs z0 z1 k).length (rcs (rngs z0 z1 k)) ∧ Below w.heap.size w wr) (fun _ _ i _ => n - (intOf i).toNat)
    case atStart => exact ⟨0, Nat.zero_le _, rfl, rfl, hown1, hb1⟩
    case round =>
      clear hown1 hb1
      obtain ⟨k, hk, rfl, rfl, hown, hb⟩ := hrel
      by_cases hlt : k < n
      · obtain ⟨b, off, rfl, c0, hb0⟩ := HS0.out k hlt
        obtain ⟨b', off', rfl, c1, hb1⟩ := HS1.out k hlt
        rw [← hb.cell (by exact hb0)] at c0
        rw [← hb.cell (by exact hb1)] at c1
        obtain ⟨x0, hx0⟩ : ∃ x0, x0 = z0.getD k 0 := ⟨_, rfl⟩
        obtain ⟨x1, hx1⟩ : ∃ x1, x1 = z1.getD k 0 := ⟨_, rfl⟩
        obtain ⟨nx, hnx⟩ : ∃ nx, nx = nextR z0 z1 k := ⟨_, rfl⟩
        rw [← hx0] at c0
        rw [← hx1] at c1
        rw [← hnx]
        have b1 : 0 ≤ x0 ∧ x0 ≤ 65535 := by rw [hx0]; exact HB0.out k
        have b2 : 0 ≤ x1 ∧ x1 ≤ 255 := by rw [hx1]; exact HB1.out k
        have b3 : 0 ≤ nx ∧ nx ≤ 65791 * (k : Int) := by rw [hnx]; exact HNB.out k
        obtain ⟨b1l, b1u⟩ := b1
        obtain ⟨b2l, b2u⟩ := b2
        obtain ⟨b3l, b3u⟩ := b3
        have b3v : nx ≤ 67369984 := by omega
        have HE : Hid (x0 = z0.getD k 0 ∧ x1 = z1.getD k 0 ∧ nx = nextR z0 z1 k) := ⟨hx0, hx1, hnx⟩
        have hrl : (rngs z0 z1 k).length ≤ k := by rw [rngs_len]; exact Nat.le_refl _
        clear hx0 hx1 hnx b3u
        go_wp2_with (at_builtin; refine wpList_append_own _ rfl _ _ 24 rfl w.heap.size 36 i0 _ 2 8 Yba.underlying24 hi0 hz0 hz1 hz2 rfl (by decide) _ _ _ rfl (hown.alloc _) ⟨wr.heap.size, 0, none⟩ 1 1 [.int .i32 (nx + x0), .int .i32 (nx + x0 + x1)] rfl rfl (World.news_of_block (cs := #[.int .i32 (nx + x0), .int .i32 (nx + x0 + x1)]) (t := 36) (fr := (0, 0)) (heap_alloc_new wr _)) (by simp [Value.oneCell']) (by unfold maxLen; omega) (by omega) (by have := hb.size; simp; omega) ?_; intro v' w2 hown2 hgrow2 _)
        have hb2 : Below w.heap.size w w2 := (hb.alloc hb.size _).grown hgrow2 (by have := hb.size; simp; omega) (own_ge hown)
        go_roundw
        case rel =>
          obtain ⟨e1, e2, e3⟩ := HE.out
          refine ⟨k + 1, by omega, by go_num, by rw [nextR, ← e1, ← e2, ← e3], ?_, hb2⟩
          rw [rngs_succ, ← e1, ← e2, ← e3, rcs_snoc, List.length_append]
          exact hown2
        case measure => simp [intOf]; omega
      · have e : k = n := by omega
        subst e
        go_wp2
        go_ret
        exact ⟨_, rfl, rrow_of hown, hb⟩
end Go.Proofs.Ybulkatic
