/-
  The frame of the proof of 'Rows.LawS2238AModelSaid', after the guide's shell; the walk is YbulkaticLawA's.
-/
import Derived.Test.YbulkaticRows
import Derived.Test.YbulkaticLawA
import Derived.WalkKit
import Derived.ProofKit
import Derived.OpenShut
import Derived.ChangeOld
import Derived.Below
import Derived.Deep.SlicePairs
namespace Go.Proofs.Ybulkatic.lawS2238AModel
open Go.ChangeShapes Go.WideShapes Go.ChangeAt Go.RowKit Go.Deep
set_option linter.unusedVariables false

theorem own : ownKnob Yba.prog.godebug = none := by kernel_rfl
theorem laidOut : laidOutB Yba.prog = true := by kernel_rfl
theorem cells68 : Yba.prog.cellsOf 68 = 2 := by kernel_rfl
theorem cells66 : Yba.prog.cellsOf 66 = 1 := by kernel_rfl

/-- The number in a value. -/
def numOf : Value → Int
  | .int _ n => n
  | _ => 0

theorem pairs_of {H : Type} {enc : TypeId × Value → H} {W : World} {base fuel : Nat} {held : Bool} {a : Option Addr} {len cap : Nat} {x : DataW H × List MemPlace}
    (h : DataW.trod enc Yba.prog W base (fun _ => true) held fuel 22 [.slice a len cap] = some x) : ∃ S, IsPairs W a len S ∧ len ≤ maxLen := by
  rcases open_slice_pairs Yba.underlying22 Yba.underlying68 cells68 rfl rfl cells66 cells66 h with ⟨hcs, _⟩ | ⟨y, l, c, m, n, V0, V1, D0, D1, P0, P1, hcs, _, hl, hm, hmm, _, hx⟩
  · simp at hcs
    obtain ⟨rfl, rfl, rfl⟩ := hcs
    exact ⟨[], ⟨rfl, by simp, fun h => absurd h (by omega)⟩, by simp⟩
  · simp at hcs
    obtain ⟨rfl, rfl, rfl⟩ := hcs
    have hlm : len ≤ m := by rw [hmm]; split <;> omega
    have each : ∀ i, i < len → W.cell? (y.add (i * 2)) = some (.int .u32 (numOf (V0 i))) ∧ W.cell? (y.add (i * 2 + 1)) = some (.int .u32 (numOf (V1 i))) ∧ (0 ≤ numOf (V0 i) ∧ numOf (V0 i) ≤ 4294967295) ∧ 0 ≤ numOf (V1 i) ∧ numOf (V1 i) ≤ 4294967295 := by
      intro i hi
      obtain ⟨h1, h2, h3, h4⟩ := hx i (by omega)
      obtain ⟨s0, e0, -, z0⟩ := DataW.trod_int Yba.underlying66 h3
      obtain ⟨s1, e1, -, z1⟩ := DataW.trod_int Yba.underlying66 h4
      simp at e0 e1
      rw [e0] at h1 ⊢
      rw [e1] at h2 ⊢
      simp [Lit.wf, IntKind.min, IntKind.max, IntKind.signed, IntKind.bits] at z0 z1
      exact ⟨h1, h2, by simp only [numOf]; omega, by simp only [numOf]; omega⟩
    have hget : ∀ i, i < len → rlo ((List.range len).map fun i => (numOf (V0 i), numOf (V1 i))) i = numOf (V0 i) ∧ rhi ((List.range len).map fun i => (numOf (V0 i), numOf (V1 i))) i = numOf (V1 i) := by
      intro i hi
      simp [rlo, rhi, List.getD_eq_getElem?_getD, hi]
    refine ⟨(List.range len).map fun i => (numOf (V0 i), numOf (V1 i)), ⟨by simp, ?_, fun hp => ?_⟩, by omega⟩
    · intro p hp
      obtain ⟨i, hi, rfl⟩ := List.mem_map.1 hp
      obtain ⟨-, -, e1, e2⟩ := each i (by simpa using hi)
      exact ⟨e1.1, e1.2, e2.1, e2.2⟩
    · obtain ⟨b, off, spot⟩ := y
      have hspot : spot = none := by simpa [Addr.add] using World.cell?_spot (each 0 hp).1
      subst hspot
      refine ⟨b, off, rfl, ?_, fun i hi => ?_⟩
      · have := block_lt_of_cell (each 0 hp).1
        exact this
      · rw [(hget i hi).1, (hget i hi).2]
        obtain ⟨h1, h2, -⟩ := each i hi
        rw [add_plain] at h1 h2
        exact ⟨h1, h2⟩

set_option maxRecDepth 100000 in
theorem lifted (os : Os) (started : os.Started) (H : Type) (enc : TypeId × Value → H) :
    ReturnsInHanded {} Yba.checked os 3 .any (Rows.lawS2238AModelSpec.pre6 enc Yba.prog Yba.f3 Rows.lawS2238AModelRow.domain false) (Rows.lawS2238AModelSpec.post enc Yba.prog Yba.f3 false true false false) := by
  refine returnsInHanded_of_change (C := Yba.checked) own started (by kernel_rfl) Yba.func3
    (ChangeSpec.witness6 (enc := enc) (C := Yba.checked) false ⟨#[], #[.slice none 0 0, .slice none 0 0, .bool false, .bool false, .slice none 0 0], []⟩ 8 (by kernel_rfl) (by kernel_rfl) (by kernel_rfl) (by kernel_rfl)) ?_
  intro W base args ds gs before hval0 hW hcnd _
  have hval : ∀ (j : Nat) t v, Yba.f3.params[j]? = some t → args[j]? = some v → Value.okWide Yba.prog W .any base t v := hval0
  have hW' := hW
  obtain ⟨p, q, hA0, hV, rfl, hfz, hnd⟩ := hW
  have hA : DataW.TrodAll enc Yba.prog W 0 (fun _ => true) true Yba.f3.params.toList args.toList ds p := hA0
  rw [Yba.params3] at hA hval
  obtain ⟨v0, vs0, d0, ds0, p0, q0, hargs, rfl, rfl, h0, r0⟩ := trodAll_cons hA
  obtain ⟨v1, vs1, d1, ds1, p1, q1, rfl, rfl, rfl, h1, r1⟩ := trodAll_cons r0
  obtain ⟨v2, vs2, d2, ds2, p2, q2, rfl, rfl, rfl, h2, r2⟩ := trodAll_cons r1
  obtain ⟨v3, vs3, d3, ds3, p3, q3, rfl, rfl, rfl, h3, r3⟩ := trodAll_cons r2
  obtain ⟨v4, vs4, d4, ds4, p4, q4, rfl, rfl, rfl, h4, r4⟩ := trodAll_cons r3
  obtain ⟨rfl, rfl, rfl⟩ := trodAll_nil r4
  obtain rfl : args = #[v0, v1, v2, v3, v4] := by cases args; simp_all
  obtain ⟨rfl, rfl⟩ := trodVars_none hV
  obtain ⟨a0, len0, cap0, rfl⟩ := okWide_slice Yba.underlying22 (hval 0 22 v0 rfl rfl)
  have k0 := h0
  have lt0 : ∀ x ∈ p0, x.block < W.heap.size := by obtain ⟨m, hm⟩ := k0; exact DataW.trod_lt m _ _ _ hm
  obtain ⟨S0, w0, n0⟩ : ∃ S, IsPairs W a0 len0 S ∧ len0 ≤ maxLen := by
    obtain ⟨fuel, hf⟩ := h0
    exact pairs_of (by simpa [Value.cells] using hf)
  obtain ⟨a1, len1, cap1, rfl⟩ := okWide_slice Yba.underlying22 (hval 1 22 v1 rfl rfl)
  have k1 := h1
  have lt1 : ∀ x ∈ p1, x.block < W.heap.size := by obtain ⟨m, hm⟩ := k1; exact DataW.trod_lt m _ _ _ hm
  obtain ⟨S1, w1, n1⟩ : ∃ S, IsPairs W a1 len1 S ∧ len1 ≤ maxLen := by
    obtain ⟨fuel, hf⟩ := h1
    exact pairs_of (by simpa [Value.cells] using hf)
  obtain ⟨a2, rfl, rfl, rfl⟩ := open_bool Yba.underlying4 (hval 2 4 v2 rfl rfl) h2
  obtain ⟨a3, rfl, rfl, rfl⟩ := open_bool Yba.underlying4 (hval 3 4 v3 rfl rfl) h3
  obtain ⟨a4, len4, cap4, rfl⟩ := okWide_slice Yba.underlying23 (hval 4 23 v4 rfl rfl)
  have k4 := h4
  have lt4 : ∀ x ∈ p4, x.block < W.heap.size := by obtain ⟨m, hm⟩ := k4; exact DataW.trod_lt m _ _ _ hm
  obtain ⟨z4, w4⟩ : ∃ zs, IsRow .i32 W a4 len4 cap4 zs := by
    obtain ⟨fuel, hf⟩ := h4
    rcases open_ints Yba.underlying23 Yba.underlying21 (by kernel_rfl) hf with ⟨hcs, _⟩ | ⟨x, l, c, zs, hcs, _, hl, hm, hz, _, hcell, hwz⟩
    · simp [Value.cells] at hcs
      obtain ⟨rfl, rfl, rfl⟩ := hcs
      exact ⟨[], .inl ⟨rfl, rfl, rfl, rfl⟩⟩
    · simp [Value.cells] at hcs
      obtain ⟨rfl, rfl, rfl⟩ := hcs
      exact ⟨zs, .inr ⟨_, rfl, hl, hm, by simpa using hz, hcell, hwz⟩⟩
  clear hA0 hval0
  unfold maxLen at n0 n1
  refine (amodel_law a0 a1 a4 len0 cap0 len1 cap1 len4 cap4 a2 a3 S0 S1 z4 W w0 w1 w4 (by omega) (by omega)).mono fun e W' ⟨he, bel⟩ => ?_
  subst he
  exact ⟨_, rfl, _, _, _, [], _, [], hW', trodAll_mk1 (shut_bool Yba.underlying4 _), (trodAll_cons_mk (Below.trod laidOut (by kernel_rfl) (of_decide_eq_true (by kernel_rfl)) k0 bel lt0) (trodAll_cons_mk (Below.trod laidOut (by kernel_rfl) (of_decide_eq_true (by kernel_rfl)) k1 bel lt1) (trodAll_cons_mk (shut_bool Yba.underlying4 _) (trodAll_cons_mk (shut_bool Yba.underlying4 _) (trodAll_cons_mk (Below.trod laidOut (by kernel_rfl) (of_decide_eq_true (by kernel_rfl)) k4 bel lt4) trodAll_mk0))))), rfl, bel.frame _, fun h => by cases h⟩

theorem over : Rows.lawS2238AModelRow.holds Yba.pinned (OpenSpec.ofChange Rows.lawS2238AModelSpec) :=
  OpenClaim.holds_of_wide 3 Yba.f3 rfl rfl rfl rfl rfl rfl rfl ⟨rfl, rfl, rfl, rfl, rfl⟩ rfl rfl rfl rfl rfl (by kernel_rfl) Yba.func3 (by kernel_rfl)
    (of_decide_eq_true (by kernel_rfl)) (by unfold Func.isWrapper; first | (rw [if_pos (by decide +kernel)]; kernel_rfl) | (rw [if_neg (by decide +kernel)]; exact ⟨rfl, rfl⟩))
    (fun os started H enc _ => lifted os started H enc)

/-- THE STATEMENT. -/
theorem proved : Rows.LawS2238AModelSaid := over
end Go.Proofs.Ybulkatic.lawS2238AModel
