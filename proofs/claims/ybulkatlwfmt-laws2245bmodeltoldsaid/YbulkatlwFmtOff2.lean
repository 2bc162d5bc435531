import Derived.Test.YbulkatlwFmtOffer
import Derived.Deep.DeepCutAuto
namespace Go.Proofs.YbulkatlwFmt
open Go.RowKit

theorem foN_vals (m : ByteArray) : ∀ d, d ≤ 5 → foN m d = 0 ∨ foN m d = 1 ∨ foN m d = 2 ∨ foN m d = 4 ∨ foN m d = 8 ∨ foN m d = 16
  | 0, _ => .inl rfl
  | d + 1, h => by
    have ih := foN_vals m d (by omega)
    rw [foN]
    cases hit m (5 - (d + 1)) with
    | false => exact ih
    | true =>
      show tF _ = 0 ∨ tF _ = 1 ∨ _
      unfold tF
      split <;> simp
theorem fo_vals (m : ByteArray) : fo m = 0 ∨ fo m = 1 ∨ fo m = 2 ∨ fo m = 4 ∨ fo m = 8 ∨ fo m = 16 := by
  unfold fo
  cases (m.toList == [116, 101, 120, 116, 47, 120, 109, 108]) with
  | true => simp
  | false => exact foN_vals m 5 (by omega)

/-- The label that goes with m in the format f. -/
def lab (m : ByteArray) (f : Int) : ByteArray := if f = 8 then tL 3 else if f = 16 then tL 4 else m

set_option maxRecDepth 100000 in
theorem offer_no (m : ByteArray) (fs : Int) (b off cap : Nat) (w : World) (h : MT w b off cap) (hs : m.size ≤ 9223372036854775807) (hc : fo m = 0 ∨ bits .and .u8 fs (fo m) = 0) :
    Calls Ybaf.prog 6 #[.string m, .int .u8 fs] w fun e w' => e = .returned (.tuple #[.agg #[.int .u8 0, .string ⟨#[]⟩, .string ⟨#[]⟩], .bool false]) ∧ Below w.heap.size w w' := by
  have HF : Hid (∀ W, Below w.heap.size w W → Calls Ybaf.prog 8 #[.string m] W fun e w' => e = .returned (.int .u8 (fo m)) ∧ Below W.heap.size W w') := fun W hb => fo_any m b off cap W (h.later hb) hs
  clear h
  generalize fo m = f at HF hc
  obtain ⟨R, hR⟩ : ∃ R, R = w.heap.size := ⟨_, rfl⟩
  have HRw : Hid (w.heap.size ≤ R) := by rw [hR]; exact Nat.le_refl _
  have HB0 : Hid (Below w.heap.size w (w.alloc (.cells #[.int .u8 0, .string ⟨#[]⟩, .string ⟨#[]⟩] 25))) := (Below.refl _ _).alloc (Nat.le_refl _) _
  have HR0 : Hid (Rs (w.alloc (.cells #[.int .u8 0, .string ⟨#[]⟩, .string ⟨#[]⟩] 25)) R 0 ⟨#[]⟩ ⟨#[]⟩) := by rw [hR]; exact rs_new w 0 _ _
  have hcc : (f == 0) = true ∨ ((f == 0) = false ∧ (bits .and .u8 fs f == 0) = true) := by
    rcases hc with hc | hc
    · exact .inl (by simpa using hc)
    · by_cases h0 : f = 0
      · exact .inl (by simpa using h0)
      · exact .inr ⟨by simpa using h0, by simpa using hc⟩
  clear hc
  rcases hcc with hc | ⟨hc, hc2⟩
  all_goals
    go_enter Ybaf.func6, Ybaf.ntmps6
    go_wp2_with fail
    rw [← hR]
    refine (HF.out _ HB0.out).mono ?_
    rintro e w1 ⟨rfl, hb1⟩
    have h1 := HR0.out.later hb1
    have HB1 := HB0.out.trans (hb1.mono HB0.out.size)
    have HB1h : Hid (Below w.heap.size w w1) := HB1
    have d0 := h1.c0
    have d1 := h1.c1
    have d2 := h1.c2
    have z0 := h1.fz 0
    have z1 := h1.fz 1
    have z2 := h1.fz 2
    have HP : Hid (Rs (((w1.setCell ⟨R, 0, none⟩ (.int .u8 0)).setCell ⟨R, 1, none⟩ (.string ⟨#[]⟩)).setCell ⟨R, 2, none⟩ (.string ⟨#[]⟩)) R 0 ⟨#[]⟩ ⟨#[]⟩) := h1.put 0 _ _
    have HB : Hid (Below w.heap.size w (((w1.setCell ⟨R, 0, none⟩ (.int .u8 0)).setCell ⟨R, 1, none⟩ (.string ⟨#[]⟩)).setCell ⟨R, 2, none⟩ (.string ⟨#[]⟩))) := ((HB1.setCell HRw.out _).setCell HRw.out _).setCell HRw.out _
    clear h1 hb1 HB1 hR
    go_wp2
    generalize (((w1.setCell ⟨R, 0, none⟩ (.int .u8 0)).setCell ⟨R, 1, none⟩ (.string ⟨#[]⟩)).setCell ⟨R, 2, none⟩ (.string ⟨#[]⟩)) = W at HP HB ⊢
    clear d0 d1 d2
    have d0 := HP.out.c0
    have d1 := HP.out.c1
    have d2 := HP.out.c2
    refine bodyPost_ret (v := .tuple #[.agg #[.int .u8 0, .string ⟨#[]⟩, .string ⟨#[]⟩], .bool false]) (by simp [results, Ybaf.results6, go_sem, d0, d1, d2]) rfl ⟨rfl, HB.out⟩

theorem Rs.put2 {w : World} {R : Nat} {f : Int} {x y : ByteArray} (h : Rs w R f x y) (y' : ByteArray) : Rs (w.setCell ⟨R, 2, none⟩ (.string y')) R f x y' := by
  have o : ∀ (W : World) (i j : Nat) (u : Value), i ≠ j → (W.setCell ⟨R, i, none⟩ u).cell? ⟨R, j, none⟩ = W.cell? ⟨R, j, none⟩ := fun W i j u hij => by rw [World.cell?_setCell_other (h := by intro e; injection e with e1 e2; omega)]
  exact ⟨by simpa using h.lt, by rw [o _ 2 0 _ (by omega)]; exact h.c0, by rw [o _ 2 1 _ (by omega)]; exact h.c1, World.cell?_setCell_same _ _ _ (u := _) h.c2, fun j => by rw [World.frozen?_setCell]; exact h.fz j⟩
theorem Rs.setOther {w : World} {R R' j : Nat} {f : Int} {x y : ByteArray} (h : Rs w R f x y) (hn : R ≠ R') (u : Value) : Rs (w.setCell ⟨R', j, none⟩ u) R f x y := by
  have o : ∀ i, (w.setCell ⟨R', j, none⟩ u).cell? ⟨R, i, none⟩ = w.cell? ⟨R, i, none⟩ := fun i => by rw [World.cell?_setCell_other (h := by intro e; injection e with e1 e2; exact hn e1.symm)]
  exact ⟨by simpa using h.lt, by rw [o]; exact h.c0, by rw [o]; exact h.c1, by rw [o]; exact h.c2, fun j => by rw [World.frozen?_setCell]; exact h.fz j⟩

set_option maxRecDepth 100000 in
/-- No label of its own. -/
theorem offer_plain (m : ByteArray) (fs : Int) (b off cap : Nat) (w : World) (h : MT w b off cap) (hs : m.size ≤ 9223372036854775807) (h0 : fo m ≠ 0) (hc : bits .and .u8 fs (fo m) ≠ 0) (hl : bits .and .u8 (fo m) 24 = 0) :
    Calls Ybaf.prog 6 #[.string m, .int .u8 fs] w fun e w' => e = .returned (.tuple #[.agg #[.int .u8 (fo m), .string m, .string m], .bool true]) ∧ Below w.heap.size w w' := by
  have HF : Hid (∀ W, Below w.heap.size w W → Calls Ybaf.prog 8 #[.string m] W fun e w' => e = .returned (.int .u8 (fo m)) ∧ Below W.heap.size W w') := fun W hb => fo_any m b off cap W (h.later hb) hs
  clear h
  generalize fo m = f at HF hc h0 hl
  obtain ⟨R, hR⟩ : ∃ R, R = w.heap.size := ⟨_, rfl⟩
  have HRw : Hid (w.heap.size ≤ R) := by rw [hR]; exact Nat.le_refl _
  have HB0 : Hid (Below w.heap.size w (w.alloc (.cells #[.int .u8 0, .string ⟨#[]⟩, .string ⟨#[]⟩] 25))) := (Below.refl _ _).alloc (Nat.le_refl _) _
  have HR0 : Hid (Rs (w.alloc (.cells #[.int .u8 0, .string ⟨#[]⟩, .string ⟨#[]⟩] 25)) R 0 ⟨#[]⟩ ⟨#[]⟩) := by rw [hR]; exact rs_new w 0 _ _
  have q1 : (f == 0) = false := by simpa using h0
  have q2 : (bits .and .u8 fs f == 0) = false := by simpa using hc
  have q3 : (bits .and .u8 f 24 != 0) = false := by simpa using hl
  clear h0 hc hl
  go_enter Ybaf.func6, Ybaf.ntmps6
  go_wp2_with fail
  rw [← hR]
  refine (HF.out _ HB0.out).mono ?_
  rintro e w1 ⟨rfl, hb1⟩
  have h1 := HR0.out.later hb1
  have HB1 := HB0.out.trans (hb1.mono HB0.out.size)
  have h2 := h1.alloc (.cells #[.int .u8 f, .string m, .string m] 25)
  have d0 := h2.c0
  have d1 := h2.c1
  have d2 := h2.c2
  have z0 := h2.fz 0
  have z1 := h2.fz 1
  have z2 := h2.fz 2
  have HP : Hid (Rs ((((w1.alloc (.cells #[.int .u8 f, .string m, .string m] 25)).setCell ⟨R, 0, none⟩ (.int .u8 f)).setCell ⟨R, 1, none⟩ (.string m)).setCell ⟨R, 2, none⟩ (.string m)) R f m m) := h2.put f m m
  have HB : Hid (Below w.heap.size w ((((w1.alloc (.cells #[.int .u8 f, .string m, .string m] 25)).setCell ⟨R, 0, none⟩ (.int .u8 f)).setCell ⟨R, 1, none⟩ (.string m)).setCell ⟨R, 2, none⟩ (.string m))) := (((HB1.alloc HB1.size _).setCell HRw.out _).setCell HRw.out _).setCell HRw.out _
  clear h1 h2 hb1 HB1 hR
  go_wp2
  generalize ((((w1.alloc (.cells #[.int .u8 f, .string m, .string m] 25)).setCell ⟨R, 0, none⟩ (.int .u8 f)).setCell ⟨R, 1, none⟩ (.string m)).setCell ⟨R, 2, none⟩ (.string m)) = W at HP HB ⊢
  clear d0 d1 d2
  have d0 := HP.out.c0
  have d1 := HP.out.c1
  have d2 := HP.out.c2
  refine bodyPost_ret (v := .tuple #[.agg #[.int .u8 f, .string m, .string m], .bool true]) (by simp [results, Ybaf.results6, go_sem, d0, d1, d2]) rfl ⟨rfl, HB.out⟩

theorem field25 (f : Int) (M L : ByteArray) (w : World) : (Instr.field 25 (.agg #[.int .u8 f, .string M, .string L]) 2).run Ybaf.prog w = .ok (.string L) w := by
  have h2 := Ybaf.isAgg9 w
  simp [Instr.field, run_underlying Ybaf.underlying25, asAgg, part, h2]

set_option maxRecDepth 100000 in
/-- The label of the table's row q. -/
theorem offer_label (m : ByteArray) (fs : Int) (q : Nat) (b off cap : Nat) (w : World) (h : MT w b off cap) (hs : m.size ≤ 9223372036854775807) (h0 : fo m ≠ 0) (hc : bits .and .u8 fs (fo m) ≠ 0) (hl : bits .and .u8 (fo m) 24 ≠ 0) (hq : q < 5) (hfq : fo m = tF q) (hne : ∀ j, j < q → tF j ≠ fo m) :
    Calls Ybaf.prog 6 #[.string m, .int .u8 fs] w fun e w' => e = .returned (.tuple #[.agg #[.int .u8 (fo m), .string m, .string (tL q)], .bool true]) ∧ Below w.heap.size w w' := by
  have HF : Hid (∀ W, Below w.heap.size w W → Calls Ybaf.prog 8 #[.string m] W fun e w' => e = .returned (.int .u8 (fo m)) ∧ Below W.heap.size W w') := fun W hb => fo_any m b off cap W (h.later hb) hs
  have HD : Hid (∀ W, Below w.heap.size w W → Calls Ybaf.prog 9 #[.int .u8 (fo m)] W fun e w' => e = .returned (.agg #[.int .u8 (fo m), .string (tM q), .string (tL q)]) ∧ Below W.heap.size W w') := fun W hb => dc_any q (fo m) b off cap W (h.later hb) hq hfq hne
  clear h hfq hne
  generalize fo m = f at HF HD hc h0 hl
  generalize tL q = L at HD
  generalize tM q = M at HD
  obtain ⟨R, hR⟩ : ∃ R, R = w.heap.size := ⟨_, rfl⟩
  have HRw : Hid (w.heap.size ≤ R) := by rw [hR]; exact Nat.le_refl _
  have HB0 : Hid (Below w.heap.size w (w.alloc (.cells #[.int .u8 0, .string ⟨#[]⟩, .string ⟨#[]⟩] 25))) := (Below.refl _ _).alloc (Nat.le_refl _) _
  have HR0 : Hid (Rs (w.alloc (.cells #[.int .u8 0, .string ⟨#[]⟩, .string ⟨#[]⟩] 25)) R 0 ⟨#[]⟩ ⟨#[]⟩) := by rw [hR]; exact rs_new w 0 _ _
  have q1 : (f == 0) = false := by simpa using h0
  have q2 : (bits .and .u8 fs f == 0) = false := by simpa using hc
  have q3 : (bits .and .u8 f 24 != 0) = true := by simpa using hl
  clear h0 hc hl hq
  go_enter Ybaf.func6, Ybaf.ntmps6
  go_wp2_with fail
  rw [← hR]
  refine (HF.out _ HB0.out).mono ?_
  rintro e w1 ⟨rfl, hb1⟩
  have h1 := HR0.out.later hb1
  have HB1 := HB0.out.trans (hb1.mono HB0.out.size)
  obtain ⟨c, hcc⟩ : ∃ c, c = w1.heap.size := ⟨_, rfl⟩
  have hRc : R < c := by rw [hcc]; exact h1.lt
  have HR1 : Hid (Rs (w1.alloc (.cells #[.int .u8 f, .string m, .string m] 25)) R 0 ⟨#[]⟩ ⟨#[]⟩) := h1.alloc _
  have HC1 : Hid (Rs (w1.alloc (.cells #[.int .u8 f, .string m, .string m] 25)) c f m m) := by rw [hcc]; exact rs_new w1 f m m
  have HB2 : Hid (Below w.heap.size w (w1.alloc (.cells #[.int .u8 f, .string m, .string m] 25))) := HB1.alloc HB1.size _
  have hcw : w.heap.size ≤ c := by rw [hcc]; exact HB1.size
  clear h1 hb1 HB1 hR HR0 HB0
  go_wp2_with fail
  rw [← hcc]
  refine (HD.out _ HB2.out).mono ?_
  rintro e w2 ⟨rfl, hb2⟩
  have HR2 : Hid (Rs w2 R 0 ⟨#[]⟩ ⟨#[]⟩) := HR1.out.later hb2
  have HC2 : Hid (Rs w2 c f m m) := HC1.out.later hb2
  have HB3 : Hid (Below w.heap.size w w2) := HB2.out.trans (hb2.mono HB2.out.size)
  clear hb2 HR1 HC1 HB2 hcc
  have e2 := HC2.out.c2
  have y2 := HC2.out.fz 2
  have q25 : ∀ w', (Instr.field 25 (.agg #[.int .u8 f, .string M, .string L]) 2).run Ybaf.prog w' = .ok (.string L) w' := fun w' => field25 f M L w'
  go_upto_region 7 with fail
  obtain ⟨w3, hw3⟩ : ∃ w3, w3 = w2.setCell ⟨c, 2, none⟩ (.string L) := ⟨_, rfl⟩
  have HC3 : Hid (Rs w3 c f m L) := by rw [hw3]; exact HC2.out.put2 L
  have HR3 : Hid (Rs w3 R 0 ⟨#[]⟩ ⟨#[]⟩) := by rw [hw3]; exact HR2.out.setOther (by omega) _
  have HB4 : Hid (Below w.heap.size w w3) := by rw [hw3]; exact HB3.out.setCell hcw _
  rw [← hw3]
  clear hw3 e2 y2 HC2 HR2 HB3
  have e0 := HC3.out.c0
  have e1 := HC3.out.c1
  have e2 := HC3.out.c2
  have d0 := HR3.out.c0
  have d1 := HR3.out.c1
  have d2 := HR3.out.c2
  have z0 := HR3.out.fz 0
  have z1 := HR3.out.fz 1
  have z2 := HR3.out.fz 2
  have HP : Hid (Rs (((w3.setCell ⟨R, 0, none⟩ (.int .u8 f)).setCell ⟨R, 1, none⟩ (.string m)).setCell ⟨R, 2, none⟩ (.string L)) R f m L) := HR3.out.put f m L
  have HB : Hid (Below w.heap.size w (((w3.setCell ⟨R, 0, none⟩ (.int .u8 f)).setCell ⟨R, 1, none⟩ (.string m)).setCell ⟨R, 2, none⟩ (.string L))) := ((HB4.out.setCell HRw.out _).setCell HRw.out _).setCell HRw.out _
  go_wp2
  generalize (((w3.setCell ⟨R, 0, none⟩ (.int .u8 f)).setCell ⟨R, 1, none⟩ (.string m)).setCell ⟨R, 2, none⟩ (.string L)) = W at HP HB ⊢
  clear d0 d1 d2
  have d0 := HP.out.c0
  have d1 := HP.out.c1
  have d2 := HP.out.c2
  refine bodyPost_ret (v := .tuple #[.agg #[.int .u8 f, .string m, .string L], .bool true]) (by simp [results, Ybaf.results6, go_sem, d0, d1, d2]) rfl ⟨rfl, HB.out⟩

theorem offer_yes (m : ByteArray) (fs : Int) (b off cap : Nat) (w : World) (h : MT w b off cap) (hs : m.size ≤ 9223372036854775807) (h0 : fo m ≠ 0) (hc : bits .and .u8 fs (fo m) ≠ 0) :
    Calls Ybaf.prog 6 #[.string m, .int .u8 fs] w fun e w' => e = .returned (.tuple #[.agg #[.int .u8 (fo m), .string m, .string (lab m (fo m))], .bool true]) ∧ Below w.heap.size w w' := by
  rcases fo_vals m with hv | hv | hv | hv | hv | hv
  · exact absurd hv h0
  · rw [show lab m (fo m) = m by rw [hv]; rfl]
    exact offer_plain m fs b off cap w h hs h0 hc (by rw [hv]; decide)
  · rw [show lab m (fo m) = m by rw [hv]; rfl]
    exact offer_plain m fs b off cap w h hs h0 hc (by rw [hv]; decide)
  · rw [show lab m (fo m) = m by rw [hv]; rfl]
    exact offer_plain m fs b off cap w h hs h0 hc (by rw [hv]; decide)
  · rw [show lab m (fo m) = tL 3 by rw [hv]; rfl]
    exact offer_label m fs 3 b off cap w h hs h0 hc (by rw [hv]; decide) (by omega) hv (by rw [hv]; exact tF_lt3)
  · rw [show lab m (fo m) = tL 4 by rw [hv]; rfl]
    exact offer_label m fs 4 b off cap w h hs h0 hc (by rw [hv]; decide) (by omega) hv (by rw [hv]; exact tF_lt4)
end Go.Proofs.YbulkatlwFmt
