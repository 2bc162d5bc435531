import Derived.Test.YbulkatlwFmtOff2
import Derived.Laws.StructEq
namespace Go.Proofs.YbulkatlwFmt
open Go.RowKit

theorem eq25 (f : Int) (x y : ByteArray) (w : World) : (binOp .eql 25 (.agg #[.int .u8 f, .string x, .string y]) (.agg #[.int .u8 f, .string x, .string y])).run Ybaf.prog w = .ok (.bool true) w := by
  have u23 := Ybaf.underlying23
  have u9 := Ybaf.underlying9
  have a23 := Ybaf.isAgg23
  have z23 := Ybaf.sizeOf23
  have a9 := Ybaf.isAgg9
  have z9 := Ybaf.sizeOf9
  have hS : Ybaf.prog.underlying 25 = some (.struct (Ybaf.prog.fieldsOf 25)) := by kernel_rfl
  have hp : Ybaf.prog.stoodInHeld 25 = false := by kernel_rfl
  rw [run_eql_struct, show (10000 : Nat) = 9999 + 1 from rfl, run_equalIn_agg w 9999 25 _ _ hS hp]
  simp only [Program.fieldsOf, Ybaf.underlying25]
  go_simp

theorem hit0 (m : ByteArray) : hit m 0 = (m.toList == [97, 112, 112, 108, 105, 99, 97, 116, 105, 111, 110, 47, 106, 115, 111, 110] || Lib.hasSuffix m.data.toList [43, 106, 115, 111, 110]) := by
  show ((tM 0).toList == m.toList || (!(tS 0).toList.isEmpty && Lib.hasSuffix m.data.toList (tS 0).data.toList)) = _
  rw [ByteArray.toList_eq (tM 0), ByteArray.toList_eq (tS 0), BEq.comm]
  rfl
theorem hit1 (m : ByteArray) : hit m 1 = (m.toList == [97, 112, 112, 108, 105, 99, 97, 116, 105, 111, 110, 47, 120, 109, 108] || Lib.hasSuffix m.data.toList [43, 120, 109, 108]) := by
  show ((tM 1).toList == m.toList || (!(tS 1).toList.isEmpty && Lib.hasSuffix m.data.toList (tS 1).data.toList)) = _
  rw [ByteArray.toList_eq (tM 1), ByteArray.toList_eq (tS 1), BEq.comm]
  rfl
theorem hit2 (m : ByteArray) : hit m 2 = (m.toList == [97, 112, 112, 108, 105, 99, 97, 116, 105, 111, 110, 47, 103, 111, 98] || Lib.hasSuffix m.data.toList [43, 103, 111, 98]) := by
  show ((tM 2).toList == m.toList || (!(tS 2).toList.isEmpty && Lib.hasSuffix m.data.toList (tS 2).data.toList)) = _
  rw [ByteArray.toList_eq (tM 2), ByteArray.toList_eq (tS 2), BEq.comm]
  rfl
theorem hit3 (m : ByteArray) : hit m 3 = (m.toList == [116, 101, 120, 116, 47, 112, 108, 97, 105, 110]) := by
  show ((tM 3).toList == m.toList || (!(tS 3).toList.isEmpty && Lib.hasSuffix m.data.toList (tS 3).data.toList)) = _
  rw [ByteArray.toList_eq (tM 3), ByteArray.toList_eq (tS 3), BEq.comm]
  exact Bool.or_false _
theorem hit4 (m : ByteArray) : hit m 4 = (m.toList == [116, 101, 120, 116, 47, 104, 116, 109, 108]) := by
  show ((tM 4).toList == m.toList || (!(tS 4).toList.isEmpty && Lib.hasSuffix m.data.toList (tS 4).data.toList)) = _
  rw [ByteArray.toList_eq (tM 4), ByteArray.toList_eq (tS 4), BEq.comm]
  exact Bool.or_false _
theorem fo_eq (m : ByteArray) : fo m = bif m.toList == [116, 101, 120, 116, 47, 120, 109, 108] then 2 else bif hit m 0 then 1 else bif hit m 1 then 2 else bif hit m 2 then 4 else bif hit m 3 then 8 else bif hit m 4 then 16 else 0 := rfl

set_option maxRecDepth 100000 in
set_option maxHeartbeats 4000000 in
theorem zfmt_any (m : ByteArray) (w : World) (hs : m.size ≤ 9223372036854775807) :
    Calls Ybaf.prog 7 #[.string m] w fun e w' => e = .returned (.int .u8 (fo m)) ∧ w' = w := by
  have HF : Hid (fo m = _) := fo_eq m
  rw [hit0, hit1, hit2, hit3, hit4] at HF
  generalize fo m = f at HF
  have H0 : Hid (∀ w, Calls Ybaf.prog 10 #[.string m, .string ⟨#[43, 106, 115, 111, 110]⟩] w fun e w' => e = .returned (.bool (Lib.hasSuffix m.data.toList [43, 106, 115, 111, 110])) ∧ w' = w) := fun w => suf_any m _ w hs
  have H1 : Hid (∀ w, Calls Ybaf.prog 10 #[.string m, .string ⟨#[43, 120, 109, 108]⟩] w fun e w' => e = .returned (.bool (Lib.hasSuffix m.data.toList [43, 120, 109, 108])) ∧ w' = w) := fun w => suf_any m _ w hs
  have H2 : Hid (∀ w, Calls Ybaf.prog 10 #[.string m, .string ⟨#[43, 103, 111, 98]⟩] w fun e w' => e = .returned (.bool (Lib.hasSuffix m.data.toList [43, 103, 111, 98])) ∧ w' = w) := fun w => suf_any m _ w hs
  generalize Lib.hasSuffix m.data.toList [43, 106, 115, 111, 110] = S0 at HF H0
  generalize Lib.hasSuffix m.data.toList [43, 120, 109, 108] = S1 at HF H1
  generalize Lib.hasSuffix m.data.toList [43, 103, 111, 98] = S2 at HF H2
  cases hx : (m.toList == [116, 101, 120, 116, 47, 120, 109, 108]) with
  | true =>
    have HR : Hid (f = 2) := by show _ = _; rw [HF.out, hx]; rfl
    go_enter Ybaf.func7, Ybaf.ntmps7
    go_wp2
    go_ret
    exact ⟨by rw [HR.out]; rfl, rfl⟩
  | false =>
    rw [hx, cond_false] at HF
    cases h0 : (m.toList == [97, 112, 112, 108, 105, 99, 97, 116, 105, 111, 110, 47, 106, 115, 111, 110]) with
    | true =>
      have HR : Hid (f = 1) := by show _ = _; rw [HF.out, h0]; rfl
      clear HF
      go_enter Ybaf.func7, Ybaf.ntmps7
      go_wp2
      go_ret
      exact ⟨by rw [HR.out]; rfl, rfl⟩
    | false =>
      rw [h0, Bool.false_or] at HF
      cases S0 with
      | true =>
        have HR : Hid (f = 1) := by show _ = _; rw [HF.out]; rfl
        clear HF
        go_enter Ybaf.func7, Ybaf.ntmps7
        go_wp2_with (go_at_call 10; refine (H0.out _).mono ?_; rintro e w' ⟨rfl, hw⟩; obtain rfl := hw.symm)
        go_ret
        exact ⟨by rw [HR.out]; rfl, rfl⟩
      | false =>
        rw [cond_false] at HF
        cases h1 : (m.toList == [97, 112, 112, 108, 105, 99, 97, 116, 105, 111, 110, 47, 120, 109, 108]) with
        | true =>
          have HR : Hid (f = 2) := by show _ = _; rw [HF.out, h1]; rfl
          clear HF
          go_enter Ybaf.func7, Ybaf.ntmps7
          go_wp2_with (go_at_call 10; refine (H0.out _).mono ?_; rintro e w' ⟨rfl, hw⟩; obtain rfl := hw.symm)
          go_ret
          exact ⟨by rw [HR.out]; rfl, rfl⟩
        | false =>
          rw [h1, Bool.false_or] at HF
          cases S1 with
          | true =>
            have HR : Hid (f = 2) := by show _ = _; rw [HF.out]; rfl
            clear HF
            go_enter Ybaf.func7, Ybaf.ntmps7
            go_wp2_with (first | (go_at_call 10; refine (H0.out _).mono ?_; rintro e w' ⟨rfl, hw⟩; obtain rfl := hw.symm) | (go_at_call 10; refine (H1.out _).mono ?_; rintro e w' ⟨rfl, hw⟩; obtain rfl := hw.symm))
            go_ret
            exact ⟨by rw [HR.out]; rfl, rfl⟩
          | false =>
            rw [cond_false] at HF
            cases h2 : (m.toList == [97, 112, 112, 108, 105, 99, 97, 116, 105, 111, 110, 47, 103, 111, 98]) with
            | true =>
              have HR : Hid (f = 4) := by show _ = _; rw [HF.out, h2]; rfl
              clear HF
              go_enter Ybaf.func7, Ybaf.ntmps7
              go_wp2_with (first | (go_at_call 10; refine (H0.out _).mono ?_; rintro e w' ⟨rfl, hw⟩; obtain rfl := hw.symm) | (go_at_call 10; refine (H1.out _).mono ?_; rintro e w' ⟨rfl, hw⟩; obtain rfl := hw.symm))
              go_ret
              exact ⟨by rw [HR.out]; rfl, rfl⟩
            | false =>
              rw [h2, Bool.false_or] at HF
              cases S2 with
              | true =>
                have HR : Hid (f = 4) := by show _ = _; rw [HF.out]; rfl
                clear HF
                go_enter Ybaf.func7, Ybaf.ntmps7
                go_wp2_with (first | (go_at_call 10; refine (H0.out _).mono ?_; rintro e w' ⟨rfl, hw⟩; obtain rfl := hw.symm) | (go_at_call 10; refine (H1.out _).mono ?_; rintro e w' ⟨rfl, hw⟩; obtain rfl := hw.symm) | (go_at_call 10; refine (H2.out _).mono ?_; rintro e w' ⟨rfl, hw⟩; obtain rfl := hw.symm))
                go_ret
                exact ⟨by rw [HR.out]; rfl, rfl⟩
              | false =>
                rw [cond_false] at HF
                cases h3 : (m.toList == [116, 101, 120, 116, 47, 112, 108, 97, 105, 110]) with
                | true =>
                  have HR : Hid (f = 8) := by show _ = _; rw [HF.out, h3]; rfl
                  clear HF
                  go_enter Ybaf.func7, Ybaf.ntmps7
                  go_wp2_with (first | (go_at_call 10; refine (H0.out _).mono ?_; rintro e w' ⟨rfl, hw⟩; obtain rfl := hw.symm) | (go_at_call 10; refine (H1.out _).mono ?_; rintro e w' ⟨rfl, hw⟩; obtain rfl := hw.symm) | (go_at_call 10; refine (H2.out _).mono ?_; rintro e w' ⟨rfl, hw⟩; obtain rfl := hw.symm))
                  go_ret
                  exact ⟨by rw [HR.out]; rfl, rfl⟩
                | false =>
                  rw [h3, cond_false] at HF
                  cases h4 : (m.toList == [116, 101, 120, 116, 47, 104, 116, 109, 108]) with
                  | true =>
                    have HR : Hid (f = 16) := by show _ = _; rw [HF.out, h4]; rfl
                    clear HF
                    go_enter Ybaf.func7, Ybaf.ntmps7
                    go_wp2_with (first | (go_at_call 10; refine (H0.out _).mono ?_; rintro e w' ⟨rfl, hw⟩; obtain rfl := hw.symm) | (go_at_call 10; refine (H1.out _).mono ?_; rintro e w' ⟨rfl, hw⟩; obtain rfl := hw.symm) | (go_at_call 10; refine (H2.out _).mono ?_; rintro e w' ⟨rfl, hw⟩; obtain rfl := hw.symm))
                    go_ret
                    exact ⟨by rw [HR.out]; rfl, rfl⟩
                  | false =>
                    rw [h4, cond_false] at HF
                    have HR : Hid (f = 0) := HF.out
                    clear HF
                    go_enter Ybaf.func7, Ybaf.ntmps7
                    go_wp2_with (first | (go_at_call 10; refine (H0.out _).mono ?_; rintro e w' ⟨rfl, hw⟩; obtain rfl := hw.symm) | (go_at_call 10; refine (H1.out _).mono ?_; rintro e w' ⟨rfl, hw⟩; obtain rfl := hw.symm) | (go_at_call 10; refine (H2.out _).mono ?_; rintro e w' ⟨rfl, hw⟩; obtain rfl := hw.symm))
                    go_ret
                    exact ⟨by rw [HR.out]; rfl, rfl⟩

set_option maxRecDepth 100000 in
set_option maxHeartbeats 4000000 in
theorem pick_any (raw : ByteArray) (sel : Int) (w : World) (hr : raw.size ≤ 1024) (s0 : 0 ≤ sel) (s1 : sel ≤ 255) :
    Calls Ybaf.prog 5 #[.string raw, .int .u8 sel] w fun e w' => ∃ m : ByteArray, e = .returned (.string m) ∧ m.size ≤ 2000 ∧ w' = w := by
  obtain ⟨r, hr9⟩ : ∃ r, r = sel % 11 := ⟨_, rfl⟩
  have h : r = 0 ∨ r = 1 ∨ r = 2 ∨ r = 3 ∨ r = 4 ∨ r = 5 ∨ r = 6 ∨ r = 7 ∨ r = 8 ∨ r = 9 ∨ r = 10 := by omega
  rcases h with h | h | h | h | h | h | h | h | h | h | h
  all_goals
    rw [h] at hr9
    have hq := hr9.symm
    clear hr9 h
    go_enter Ybaf.func5, Ybaf.ntmps5
    go_wp2
    go_ret
    refine ⟨_, rfl, ?_, rfl⟩
    first | omega | decide | (rw [ByteArray.size_append, show (ByteArray.mk #[43, 106, 115, 111, 110]).size = 5 from rfl]; omega) | (rw [ByteArray.size_append, show (ByteArray.mk #[43, 120, 109, 108]).size = 4 from rfl]; omega) | (rw [ByteArray.size_append, show (ByteArray.mk #[43, 103, 111, 98]).size = 4 from rfl]; omega)
end Go.Proofs.YbulkatlwFmt
