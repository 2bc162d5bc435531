import Derived.Test.YbulkatlwFmtPick
namespace Go.Proofs.YbulkatlwFmt
open Go.RowKit

theorem and31 (m : ByteArray) (h : fo m ≠ 0) : bits .and .u8 31 (fo m) ≠ 0 := by
  rcases fo_vals m with hv | hv | hv | hv | hv | hv
  · exact absurd hv h
  all_goals rw [hv]; decide

set_option maxRecDepth 100000 in
set_option maxHeartbeats 4000000 in
theorem sibling_law (raw : ByteArray) (sel : Int) (b off cap : Nat) (w : World) (h : MT w b off cap) (hr : raw.size ≤ 9223372036854775807) (s0 : 0 ≤ sel) (s1 : sel ≤ 255) :
    Calls Ybaf.prog 4 #[.string raw, .int .u8 sel] w fun e w' => e = .returned (.bool true) ∧ Below w.heap.size w w' := by
  by_cases hl : 1024 < raw.size
  · have q : decide ((1024 : Int) < (raw.size : Int)) = true := by simp; omega
    go_enter Ybaf.func4, Ybaf.ntmps4
    go_wp2
    go_ret
    exact ⟨rfl, Below.refl _ _⟩
  have q : decide ((1024 : Int) < (raw.size : Int)) = false := by simp; omega
  have HP : Hid (Calls Ybaf.prog 5 #[.string raw, .int .u8 sel] w fun e w' => ∃ m : ByteArray, e = .returned (.string m) ∧ m.size ≤ 2000 ∧ w' = w) := pick_any raw sel w (by omega) s0 s1
  have H : Hid (MT w b off cap) := h
  clear h
  go_enter Ybaf.func4, Ybaf.ntmps4
  go_wp2_with fail
  refine HP.out.mono ?_
  rintro e w0 ⟨m, rfl, hm, hw⟩
  obtain rfl := hw.symm
  have HFO : Hid (∀ W, Below w.heap.size w W → Calls Ybaf.prog 8 #[.string m] W fun e w' => e = .returned (.int .u8 (fo m)) ∧ Below W.heap.size W w') := fun W hb => fo_any m b off cap W (H.out.later hb) (by omega)
  by_cases h0 : fo m = 0
  · have HO : Hid (Calls Ybaf.prog 6 #[.string m, .int .u8 31] w fun e w' => e = .returned (.tuple #[.agg #[.int .u8 0, .string ⟨#[]⟩, .string ⟨#[]⟩], .bool false]) ∧ Below w.heap.size w w') := offer_no m 31 b off cap w H.out (by omega) (.inl h0)
    rw [h0] at HFO
    clear h0 HP H
    go_wp2_with fail
    refine HO.out.mono ?_
    rintro e w1 ⟨rfl, hb1⟩
    have hb2 := hb1.alloc hb1.size (.cells #[.int .u8 0, .string ⟨#[]⟩, .string ⟨#[]⟩] 25)
    go_wp2_with fail
    refine (HFO.out _ hb2).mono ?_
    rintro e w2 ⟨rfl, hb3⟩
    go_wp2
    go_ret
    exact ⟨rfl, hb2.trans (hb3.mono hb2.size)⟩
  · have HO : Hid (Calls Ybaf.prog 6 #[.string m, .int .u8 31] w fun e w' => e = .returned (.tuple #[.agg #[.int .u8 (fo m), .string m, .string (lab m (fo m))], .bool true]) ∧ Below w.heap.size w w') := offer_yes m 31 b off cap w H.out (by omega) h0 (and31 m h0)
    generalize lab m (fo m) = L at HO
    generalize fo m = f at HO HFO h0
    have h0' : (f == 0) = false := by simpa using h0
    clear h0 HP H
    go_wp2_with fail
    refine HO.out.mono ?_
    rintro e w1 ⟨rfl, hb1⟩
    have hb2 := hb1.alloc hb1.size (.cells #[.int .u8 f, .string m, .string L] 25)
    obtain ⟨c, hc⟩ : ∃ c, c = w1.heap.size := ⟨_, rfl⟩
    have HC : Hid (Rs (w1.alloc (.cells #[.int .u8 f, .string m, .string L] 25)) c f m L) := by rw [hc]; exact rs_new w1 f m L
    go_wp2_with fail
    rw [← hc]
    refine (HFO.out _ hb2).mono ?_
    rintro e w2 ⟨rfl, hb3⟩
    have h2 := HC.out.later hb3
    have d0 := h2.c0
    have d1 := h2.c1
    have hb4 := hb2.trans (hb3.mono hb2.size)
    clear h2 hc hb1 hb2 hb3
    go_wp2
    go_ret
    exact ⟨rfl, hb4⟩

set_option maxRecDepth 100000 in
set_option maxHeartbeats 4000000 in
theorem model_law (raw : ByteArray) (sel fs : Int) (b off cap : Nat) (w : World) (h : MT w b off cap) (hr : raw.size ≤ 9223372036854775807) (s0 : 0 ≤ sel) (s1 : sel ≤ 255) :
    Calls Ybaf.prog 3 #[.string raw, .int .u8 sel, .int .u8 fs] w fun e w' => e = .returned (.bool true) ∧ Below w.heap.size w w' := by
  by_cases hl : 1024 < raw.size
  · have q : decide ((1024 : Int) < (raw.size : Int)) = true := by simp; omega
    go_enter Ybaf.func3, Ybaf.ntmps3
    go_wp2
    go_ret
    exact ⟨rfl, Below.refl _ _⟩
  have q : decide ((1024 : Int) < (raw.size : Int)) = false := by simp; omega
  have HP : Hid (Calls Ybaf.prog 5 #[.string raw, .int .u8 sel] w fun e w' => ∃ m : ByteArray, e = .returned (.string m) ∧ m.size ≤ 2000 ∧ w' = w) := pick_any raw sel w (by omega) s0 s1
  have H : Hid (MT w b off cap) := h
  clear h
  go_enter Ybaf.func3, Ybaf.ntmps3
  go_wp2_with fail
  refine HP.out.mono ?_
  rintro e w0 ⟨m, rfl, hm, hw⟩
  obtain rfl := hw.symm
  have HZF : Hid (∀ W, Calls Ybaf.prog 7 #[.string m] W fun e w' => e = .returned (.int .u8 (fo m)) ∧ w' = W) := fun W => zfmt_any m W (by omega)
  by_cases hno : fo m = 0 ∨ bits .and .u8 fs (fo m) = 0
  · have HO : Hid (Calls Ybaf.prog 6 #[.string m, .int .u8 fs] w fun e w' => e = .returned (.tuple #[.agg #[.int .u8 0, .string ⟨#[]⟩, .string ⟨#[]⟩], .bool false]) ∧ Below w.heap.size w w') := offer_no m fs b off cap w H.out (by omega) hno
    generalize fo m = f at HZF hno
    have hcc : (f == 0) = true ∨ ((f == 0) = false ∧ (bits .and .u8 fs f == 0) = true) := by
      rcases hno with hc | hc
      · exact .inl (by simpa using hc)
      · by_cases h0 : f = 0
        · exact .inl (by simpa using h0)
        · exact .inr ⟨by simpa using h0, by simpa using hc⟩
    clear hno HP H
    rcases hcc with hc | ⟨hc, hc2⟩
    all_goals
      go_wp2_with fail
      refine HO.out.mono ?_
      rintro e w1 ⟨rfl, hb1⟩
      have hb2 := hb1.alloc hb1.size (.cells #[.int .u8 0, .string ⟨#[]⟩, .string ⟨#[]⟩] 25)
      obtain ⟨c, hcc⟩ : ∃ c, c = w1.heap.size := ⟨_, rfl⟩
      have HC : Hid (Rs (w1.alloc (.cells #[.int .u8 0, .string ⟨#[]⟩, .string ⟨#[]⟩] 25)) c 0 ⟨#[]⟩ ⟨#[]⟩) := by rw [hcc]; exact rs_new w1 0 _ _
      go_wp2_with fail
      rw [← hcc]
      refine (HZF.out _).mono ?_
      rintro e w2 ⟨rfl, hw2⟩
      rw [← hw2] at hb2 HC
      have d0 := HC.out.c0
      have d1 := HC.out.c1
      have d2 := HC.out.c2
      have q25 : ∀ w', (binOp .eql 25 (.agg #[.int .u8 0, .string ⟨#[]⟩, .string ⟨#[]⟩]) (.agg #[.int .u8 0, .string ⟨#[]⟩, .string ⟨#[]⟩])).run Ybaf.prog w' = .ok (.bool true) w' := fun w' => eq25 0 _ _ w'
      clear hw2 hcc hb1
      go_wp2
      go_ret
      exact ⟨rfl, hb2⟩
  · have h0 : fo m ≠ 0 := fun h => hno (.inl h)
    have hc : bits .and .u8 fs (fo m) ≠ 0 := fun h => hno (.inr h)
    have HO : Hid (Calls Ybaf.prog 6 #[.string m, .int .u8 fs] w fun e w' => e = .returned (.tuple #[.agg #[.int .u8 (fo m), .string m, .string (lab m (fo m))], .bool true]) ∧ Below w.heap.size w w') := offer_yes m fs b off cap w H.out (by omega) h0 hc
    have HV : Hid (lab m (fo m) = if fo m = 8 then tL 3 else if fo m = 16 then tL 4 else m) := rfl
    generalize lab m (fo m) = L at HO HV
    generalize fo m = f at HO HZF HV h0 hc
    have h0' : (f == 0) = false := by simpa using h0
    have hc' : (bits .and .u8 fs f == 0) = false := by simpa using hc
    clear h0 hc hno HP H
    go_wp2_with fail
    refine HO.out.mono ?_
    rintro e w1 ⟨rfl, hb1⟩
    have hb2 := hb1.alloc hb1.size (.cells #[.int .u8 f, .string m, .string L] 25)
    obtain ⟨c, hcc⟩ : ∃ c, c = w1.heap.size := ⟨_, rfl⟩
    have HC : Hid (Rs (w1.alloc (.cells #[.int .u8 f, .string m, .string L] 25)) c f m L) := by rw [hcc]; exact rs_new w1 f m L
    go_wp2_with fail
    rw [← hcc]
    refine (HZF.out _).mono ?_
    rintro e w2 ⟨rfl, hw2⟩
    rw [← hw2] at hb2 HC
    have q25 : ∀ w', (binOp .eql 25 (.agg #[.int .u8 f, .string m, .string L]) (.agg #[.int .u8 f, .string m, .string L])).run Ybaf.prog w' = .ok (.bool true) w' := fun w' => eq25 f _ _ w'
    have d0 := HC.out.c0
    have d1 := HC.out.c1
    have d2 := HC.out.c2
    clear hw2 hcc hb1 HC HO HZF
    by_cases h8 : f = 8
    · subst h8
      obtain rfl : L = tL 3 := HV.out
      clear HV
      unfold tL at d2 q25
      go_wp2
      go_ret
      exact ⟨rfl, hb2⟩
    · have h8' : (f == 8) = false := by simpa using h8
      by_cases h16 : f = 16
      · subst h16
        obtain rfl : L = tL 4 := HV.out
        clear HV
        unfold tL at d2 q25
        go_wp2
        go_ret
        exact ⟨rfl, hb2⟩
      · have h16' : (f == 16) = false := by simpa using h16
        obtain rfl : L = m := by have := HV.out; rw [if_neg h8, if_neg h16] at this; exact this
        clear HV h8 h16
        go_wp2
        go_ret
        exact ⟨rfl, hb2⟩
end Go.Proofs.YbulkatlwFmt
