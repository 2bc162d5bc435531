import Derived.Test.YbulkaticRows
import Derived.Test.YbulkaticMem
import Derived.WalkSpells
import Derived.Outline
import Derived.Deep.QuietTactic
import Derived.BigQuiet
import Derived.Deep.RegionHeld3
import Derived.OpenShut
namespace Go.Proofs.Ybulkatic
open Go.RowKit

/-- The items that came in: their names and texts. -/
def IsItems (w : World) (a : Option Addr) (len : Nat) (S : List (ByteArray × ByteArray)) : Prop :=
  S.length = len ∧ (0 < len → ∃ b off, a = some ⟨b, off, none⟩ ∧ ∀ i, i < len → w.cell? ⟨b, off + i * 2, none⟩ = some (.string (S.getD i zp).1) ∧ w.cell? ⟨b, off + i * 2 + 1, none⟩ = some (.string (S.getD i zp).2))

theorem IsItems.later {w w' : World} {a : Option Addr} {len : Nat} {S : List (ByteArray × ByteArray)} (h : IsItems w a len S) (hb : Below w.heap.size w w') : IsItems w' a len S := by
  refine ⟨h.1, fun hp => ?_⟩
  obtain ⟨b, off, e, hc⟩ := h.2 hp
  refine ⟨b, off, e, fun i hi => ?_⟩
  obtain ⟨h1, h2⟩ := hc i hi
  exact ⟨by rw [hb.cell (by exact block_lt_of_cell h1)]; exact h1, by rw [hb.cell (by exact block_lt_of_cell h2)]; exact h2⟩

theorem Yba.info63 : (Yba.prog.info? 63).map (fun i => (i.zero, i.size, i.bytes)) = some (some (.agg #[.string ⟨#[]⟩, .int .u8 0, .string ⟨#[]⟩, .slice none 0 0]), 4, 64) := by kernel_rfl
theorem Yba.size63 : (Yba.prog.info? 63).map (·.size) = some 4 := by kernel_rfl

theorem made_mem (w : World) (n : Nat) : IsMem (w.alloc (.cells (madeCells (Value.agg #[.string ⟨#[]⟩, .int .u8 0, .string ⟨#[]⟩, .slice none 0 0]).cells (n * 4)) 63)) w.heap.size (List.replicate n zp) := by
  have hb : (w.alloc (.cells (madeCells (Value.agg #[.string ⟨#[]⟩, .int .u8 0, .string ⟨#[]⟩, .slice none 0 0]).cells (n * 4)) 63)).heap[w.heap.size]? = some (.cells (madeCells (Value.agg #[.string ⟨#[]⟩, .int .u8 0, .string ⟨#[]⟩, .slice none 0 0]).cells (n * 4)) 63 (0, 0)) := heap_alloc_new _ _
  have hc : ∀ j, j < n * 4 → (madeCells (Value.agg #[.string ⟨#[]⟩, .int .u8 0, .string ⟨#[]⟩, .slice none 0 0]).cells (n * 4))[j]? = (mem zp)[j % 4]? := by
    intro j hj
    have h4 : j % 4 < 4 := Nat.mod_lt _ (by omega)
    simp only [madeCells, Array.getElem?_map, Array.getElem?_range, hj, if_true, Option.map_some, Value.cells]
    have : j % 4 = 0 ∨ j % 4 = 1 ∨ j % 4 = 2 ∨ j % 4 = 3 := by omega
    rcases this with e | e | e | e <;> simp [e, mem, zp]
  refine ⟨fun i hi j v hv => ?_, fun j hj => ?_⟩
  · rw [List.length_replicate] at hi
    have hg : (List.replicate n zp).getD i zp = zp := by simp [List.getD_eq_getElem?_getD, hi]
    rw [hg] at hv
    have hj : j < 4 := by simpa [mem] using (List.getElem?_eq_some_iff.1 hv).1
    rw [cell_of_row _ _ _ _ _ _ hb, hc _ (by omega), ← hv]
    congr 1; omega
  · rw [List.length_replicate] at hj
    refine ⟨?_, frozen_of_row _ _ _ _ _ hb⟩
    rw [cell_of_row _ _ _ _ _ _ hb, hc _ (by omega)]
    have h4 : (0 + j) % 4 < 4 := Nat.mod_lt _ (by omega)
    rw [List.getElem?_eq_getElem (by simp [mem]; omega)]; rfl

theorem build_any (a : Option Addr) (n cap : Nat) (S : List (ByteArray × ByteArray)) (w : World) (h : IsItems w a n S) (hn : n ≤ 1024) :
    Calls Yba.prog 17 #[.slice a n cap] w fun e w' => e = .returned (.slice (some ⟨w.heap.size, 0, none⟩) n n) ∧ IsMem w' w.heap.size S ∧ Below w.heap.size w w' ∧ w.heap.size < w'.heap.size := by
  obtain ⟨i0, hi0, hz0, hz1, hz2⟩ := info_parts Yba.info63
  have hmk : ∀ w, (Instr.makeSlice 54 (.int .i64 (n : Int)) (.int .i64 (n : Int))).run Yba.prog w = .ok (.slice (some ⟨w.heap.size, 0, none⟩) n n) (w.alloc (.cells (madeCells (Value.agg #[.string ⟨#[]⟩, .int .u8 0, .string ⟨#[]⟩, .slice none 0 0]).cells (n * 4)) 63)) := fun w => by
    have := run_make (P := Yba.prog) w 54 63 i0 _ Yba.underlying54 hi0 hz0 .i64 .i64 n n (by omega) (by omega) (by rw [hz2]; omega) (by omega)
    rw [hz1] at this
    simpa using this
  clear hi0 hz0 hz1 hz2
  go_enter Yba.func17, Yba.ntmps17
  go_wp2
  generalize hW : w.alloc _ = W
  have hm0 : IsMem W w.heap.size (List.replicate n zp) := by rw [← hW]; exact made_mem w n
  have hb0 : Below w.heap.size w W := by rw [← hW]; exact (Below.refl _ _).alloc (Nat.le_refl _) _
  have hs0 : w.heap.size < W.heap.size := by rw [← hW]; simp
  clear hW hmk
  go_loopw [4] (fun i wr => ∃ k : Nat, k ≤ n ∧ i = .int .i64 k ∧ ∃ X, X.length = n ∧ X.take k = S.take k ∧ IsMem wr w.heap.size X ∧ Below w.heap.size w wr ∧ w.heap.size < wr.heap.size) (fun i _ => n - (intOf i).toNat)
  case atStart => exact ⟨0, Nat.zero_le _, rfl, List.replicate n zp, by simp, rfl, hm0, hb0, hs0⟩
  case round =>
    clear hm0 hb0 hs0
    obtain ⟨k, hk, rfl, X, hX, ht, hm, hb, hs⟩ := hrel
    by_cases hlt : k < n
    · obtain ⟨b, off, rfl, hc⟩ := h.2 (by omega)
      obtain ⟨c1, c2⟩ := hc k hlt
      have hbl := block_lt_of_cell c1
      rw [← hb.cell (by exact block_lt_of_cell c1)] at c1
      rw [← hb.cell (by exact block_lt_of_cell c2)] at c2
      have hne : w.heap.size ≠ b := by have : b < w.heap.size := hbl; omega
      have hth := hm.thereAll (i := k) (by omega)
      have t0 := hth 0 (by omega)
      have t1 := hth 1 (by omega)
      have t2 := hth 2 (by omega)
      have t3 := hth 3 (by omega)
      obtain ⟨x0, hx0⟩ := Option.isSome_iff_exists.1 t0.1
      obtain ⟨x1, hx1⟩ := Option.isSome_iff_exists.1 t1.1
      obtain ⟨x2, hx2⟩ := Option.isSome_iff_exists.1 t2.1
      obtain ⟨x3, hx3⟩ := Option.isSome_iff_exists.1 t3.1
      have f0 := t0.2
      have f1 := t1.2
      have f2 := t2.2
      have f3 := t3.2
      simp only [Nat.add_zero] at hx0 f0
      have b0 : (0 : Int) ≤ (k : Int) := by omega
      have b1 : (k : Int) < (n : Int) := by omega
      clear t0 t1 t2 t3 hth hc
      go_wp2
      go_region_held3 (fun w' => w'.cell? ⟨b, off + k * 2, none⟩ = some (.string (S.getD k zp).1) ∧ w'.cell? ⟨b, off + k * 2 + 1, none⟩ = some (.string (S.getD k zp).2)) (go_keep) (fail)
      have R : IsMem ((((wr.setCell ⟨w.heap.size, k * 4, none⟩ (.string (S.getD k zp).1)).setCell ⟨w.heap.size, k * 4 + 1, none⟩ (.int .u8 0)).setCell ⟨w.heap.size, k * 4 + 2, none⟩ (.string (S.getD k zp).2)).setCell ⟨w.heap.size, k * 4 + 3, none⟩ (.slice none 0 0)).drew w.heap.size (X.set k (S.getD k zp)) := (hm.setAll (i := k) (by omega) (S.getD k zp)).drew
      have RB : Below w.heap.size w ((((wr.setCell ⟨w.heap.size, k * 4, none⟩ (.string (S.getD k zp).1)).setCell ⟨w.heap.size, k * 4 + 1, none⟩ (.int .u8 0)).setCell ⟨w.heap.size, k * 4 + 2, none⟩ (.string (S.getD k zp).2)).setCell ⟨w.heap.size, k * 4 + 3, none⟩ (.slice none 0 0)).drew :=
        ((((hb.setCell (Nat.le_refl _) _).setCell (Nat.le_refl _) _).setCell (Nat.le_refl _) _).setCell (Nat.le_refl _) _).drew
      have RT : Hid ((X.set k (S.getD k zp)).take (k + 1) = S.take (k + 1)) := by
        show (X.set k (S.getD k zp)).take (k + 1) = S.take (k + 1)
        have hSk : k < S.length := by rw [h.1]; exact hlt
        rw [List.take_succ_eq_append_getElem (by simp; omega), List.take_succ_eq_append_getElem hSk, List.take_set_of_le (Nat.le_refl _), ht]
        rw [List.getElem_set_self, getD_at hSk]
      clear ht hm hb c1 c2 hx0 hx1 hx2 hx3 f0 f1 f2 f3
      go_wp2
      go_roundw
      case rel => exact ⟨k + 1, by omega, by go_num, X.set k (S.getD k zp), by simpa using hX, RT.out, R, RB, by simpa using hs⟩
      case measure => simp [intOf]; omega
    · obtain rfl : k = n := by omega
      have hXS : X = S := by
        rw [List.take_of_length_le (by omega), List.take_of_length_le (by rw [h.1]; exact Nat.le_refl _)] at ht; exact ht
      clear ht
      subst hXS
      go_wp2
      go_ret
      exact ⟨rfl, hm, hb, hs⟩
end Go.Proofs.Ybulkatic
