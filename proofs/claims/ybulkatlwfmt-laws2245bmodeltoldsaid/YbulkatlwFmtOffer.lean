import Derived.Test.YbulkatlwFmtSmall
namespace Go.Proofs.YbulkatlwFmt
open Go.RowKit

theorem tF_lt3 (j : Nat) (h : j < 3) : tF j ≠ 8 := by
  match j, h with
  | 0, _ => decide
  | 1, _ => decide
  | 2, _ => decide
theorem tF_lt4 (j : Nat) (h : j < 4) : tF j ≠ 16 := by
  match j, h with
  | 0, _ => decide
  | 1, _ => decide
  | 2, _ => decide
  | 3, _ => decide

/-- The block R may be written, and holds a choice. -/
structure Rs (w : World) (R : Nat) (f : Int) (x y : ByteArray) : Prop where
  lt : R < w.heap.size
  c0 : w.cell? ⟨R, 0, none⟩ = some (.int .u8 f)
  c1 : w.cell? ⟨R, 1, none⟩ = some (.string x)
  c2 : w.cell? ⟨R, 2, none⟩ = some (.string y)
  fz : ∀ j, w.frozen? ⟨R, j, none⟩ = false
theorem Rs.alloc {w : World} {R : Nat} {f : Int} {x y : ByteArray} (h : Rs w R f x y) (o : Obj) : Rs (w.alloc o) R f x y := by
  have e : ∀ j, (w.alloc o).cell? ⟨R, j, none⟩ = w.cell? ⟨R, j, none⟩ := fun j => World.cell?_alloc_lt _ _ _ (by exact h.lt)
  exact ⟨by have := h.lt; simp; omega, by rw [e]; exact h.c0, by rw [e]; exact h.c1, by rw [e]; exact h.c2, fun j => by rw [World.frozen?_alloc_past _ _ _ h.lt]; exact h.fz j⟩
theorem Rs.later {w w' : World} {R : Nat} {f : Int} {x y : ByteArray} (h : Rs w R f x y) (hb : Below w.heap.size w w') : Rs w' R f x y := by
  have e : ∀ j, w'.cell? ⟨R, j, none⟩ = w.cell? ⟨R, j, none⟩ := fun j => hb.cell (by exact h.lt)
  exact ⟨Nat.lt_of_lt_of_le h.lt hb.size, by rw [e]; exact h.c0, by rw [e]; exact h.c1, by rw [e]; exact h.c2, fun j => by rw [hb.frozen (by exact h.lt)]; exact h.fz j⟩
theorem rs_new (w : World) (f : Int) (x y : ByteArray) : Rs (w.alloc (.cells #[.int .u8 f, .string x, .string y] 25)) w.heap.size f x y := by
  refine ⟨by simp, ?_, ?_, ?_, fun j => World.frozen?_alloc_new _ _ _ j⟩ <;> · rw [World.cell?_alloc_new]; rfl

theorem Rs.put {w : World} {R : Nat} {f : Int} {x y : ByteArray} (h : Rs w R f x y) (f' : Int) (x' y' : ByteArray) : Rs (((w.setCell ⟨R, 0, none⟩ (.int .u8 f')).setCell ⟨R, 1, none⟩ (.string x')).setCell ⟨R, 2, none⟩ (.string y')) R f' x' y' := by
  have o : ∀ (W : World) (i j : Nat) (u : Value), i ≠ j → (W.setCell ⟨R, i, none⟩ u).cell? ⟨R, j, none⟩ = W.cell? ⟨R, j, none⟩ := fun W i j u hij => by rw [World.cell?_setCell_other (h := by intro e; injection e with e1 e2; omega)]
  refine ⟨by simpa using h.lt, ?_, ?_, ?_, fun j => by rw [World.frozen?_setCell, World.frozen?_setCell, World.frozen?_setCell]; exact h.fz j⟩
  · rw [o _ 2 0 _ (by omega), o _ 1 0 _ (by omega)]; exact World.cell?_setCell_same _ _ _ (u := _) h.c0
  · rw [o _ 2 1 _ (by omega)]; exact World.cell?_setCell_same _ _ _ (u := .string x) (by rw [o _ 0 1 _ (by omega)]; exact h.c1)
  · exact World.cell?_setCell_same _ _ _ (u := .string y) (by rw [o _ 1 2 _ (by omega), o _ 0 2 _ (by omega)]; exact h.c2)

set_option maxRecDepth 100000 in
theorem dc_any (q : Nat) (f : Int) (b off cap : Nat) (w : World) (h : MT w b off cap) (hq : q < 5) (hf : f = tF q) (hne : ∀ j, j < q → tF j ≠ f) :
    Calls Ybaf.prog 9 #[.int .u8 f] w fun e w' => e = .returned (.agg #[.int .u8 f, .string (tM q), .string (tL q)]) ∧ Below w.heap.size w w' := by
  have H : Hid (MT w b off cap) := h
  have HF : Hid (f = tF q ∧ ∀ j, j < q → tF j ≠ f) := ⟨hf, hne⟩
  have gl : (w.alloc (.cells #[.int .u8 0, .string ⟨#[]⟩, .string ⟨#[]⟩] 25)).cell? ⟨0, 0, none⟩ = some (.slice (some ⟨b, off, none⟩) 5 cap) := by
    rw [World.cell?_alloc_lt _ _ _ (by exact h.pos)]; exact h.gl
  clear h hf hne
  go_enter Ybaf.func9, Ybaf.ntmps9
  go_wp2
  clear gl
  obtain ⟨R, hR⟩ : ∃ R, R = w.heap.size := ⟨_, rfl⟩
  have HR0 : Hid (Rs (w.alloc (.cells #[.int .u8 0, .string ⟨#[]⟩, .string ⟨#[]⟩] 25)) R 0 ⟨#[]⟩ ⟨#[]⟩) := by rw [hR]; exact rs_new w 0 _ _
  have HRw : Hid (w.heap.size ≤ R) := by rw [hR]; exact Nat.le_refl _
  rw [← hR]
  clear hR
  go_loopw [7] (fun i wr => ∃ k : Nat, k ≤ q ∧ i = .int .i64 k ∧ Hid (Rs wr R 0 ⟨#[]⟩ ⟨#[]⟩) ∧ Below w.heap.size w wr) (fun i _ => q - (intOf i).toNat)
  case atStart => exact ⟨0, by omega, rfl, HR0, (Below.refl _ _).alloc (Nat.le_refl _) _⟩
  case round =>
    clear HR0
    obtain ⟨k, hk, rfl, hr, hb⟩ := hrel
    have hk5 : k < 5 := by omega
    obtain ⟨c0, c1, c2, c3, c4⟩ := (H.out.later hb).row k hk5
    have hsz := hb.size
    by_cases hlt : k < q
    · have hneq := HF.out.2 k hlt
      generalize tF k = F at c0 hneq
      generalize tN k = N at c1
      generalize tL k = L at c3
      generalize tM k = M at c2
      generalize tS k = S at c4
      have he : (F == f) = false := by simpa using hneq
      have HR1 : Hid (Rs (wr.alloc (.cells #[.int .u8 F, .string N, .string M, .string L, .string S] 34)) R 0 ⟨#[]⟩ ⟨#[]⟩) := hr.out.alloc _
      clear hr
      go_wp2
      go_roundw
      case rel => exact ⟨k + 1, by omega, by go_num, HR1, hb.alloc hsz _⟩
      case measure => simp [intOf]; omega
    · obtain rfl : k = q := by omega
      rw [← HF.out.1] at c0
      have HE : Hid (tM k = tM k ∧ tL k = tL k) := ⟨rfl, rfl⟩
      obtain ⟨M, hM⟩ : ∃ M, M = tM k := ⟨_, rfl⟩
      obtain ⟨L, hL⟩ : ∃ L, L = tL k := ⟨_, rfl⟩
      rw [← hM] at c2
      rw [← hL] at c3
      have HML : Hid (M = tM k ∧ L = tL k) := ⟨hM, hL⟩
      clear hM hL HE
      generalize tN k = N at c1
      generalize tS k = S at c4
      have h1 := hr.out.alloc (.cells #[.int .u8 f, .string N, .string M, .string L, .string S] 34)
      have d0 := h1.c0
      have d1 := h1.c1
      have d2 := h1.c2
      have z0 := h1.fz 0
      have z1 := h1.fz 1
      have z2 := h1.fz 2
      have HP : Hid (Rs ((((wr.alloc (.cells #[.int .u8 f, .string N, .string M, .string L, .string S] 34)).setCell ⟨R, 0, none⟩ (.int .u8 f)).setCell ⟨R, 1, none⟩ (.string M)).setCell ⟨R, 2, none⟩ (.string L)) R f M L) := h1.put f M L
      have HB : Hid (Below w.heap.size w ((((wr.alloc (.cells #[.int .u8 f, .string N, .string M, .string L, .string S] 34)).setCell ⟨R, 0, none⟩ (.int .u8 f)).setCell ⟨R, 1, none⟩ (.string M)).setCell ⟨R, 2, none⟩ (.string L))) :=
        (((hb.alloc hsz _).setCell HRw.out _).setCell HRw.out _).setCell HRw.out _
      clear h1
      go_wp2
      generalize ((((wr.alloc (.cells #[.int .u8 f, .string N, .string M, .string L, .string S] 34)).setCell ⟨R, 0, none⟩ (.int .u8 f)).setCell ⟨R, 1, none⟩ (.string M)).setCell ⟨R, 2, none⟩ (.string L)) = W at HP HB ⊢
      clear d0 d1 d2
      have d0 := HP.out.c0
      have d1 := HP.out.c1
      have d2 := HP.out.c2
      rw [← HML.out.1, ← HML.out.2]
      refine bodyPost_ret (v := .agg #[.int .u8 f, .string M, .string L]) (by simp [results, Ybaf.results9, go_sem, d0, d1, d2]) rfl ⟨rfl, HB.out⟩
end Go.Proofs.YbulkatlwFmt
