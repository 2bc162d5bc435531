/-
  The frame of the proof of 'Rows.LawS2238BWholeSaid', after the guide's shell; the walk is YbulkaticLawW's.
-/
import Derived.Test.YbulkaticRows
import Derived.Test.YbulkaticLawW
import Derived.WalkKit
import Derived.ProofKit
import Derived.OpenShut
import Derived.ChangeOld
import Derived.Below
namespace Go.Proofs.Ybulkatic.lawS2238BWhole
open Go.ChangeShapes Go.WideShapes Go.ChangeAt Go.RowKit
set_option linter.unusedVariables false

theorem own : ownKnob Yba.prog.godebug = none := by kernel_rfl
theorem laidOut : laidOutB Yba.prog = true := by kernel_rfl
theorem cells47 : Yba.prog.cellsOf 47 = 15 := by kernel_rfl
theorem cells39 : Yba.prog.cellsOf 39 = 1 := by kernel_rfl
theorem cells40 : Yba.prog.cellsOf 40 = 1 := by kernel_rfl
theorem cells4 : Yba.prog.cellsOf 4 = 1 := by kernel_rfl
theorem cells45 : Yba.prog.cellsOf 45 = 1 := by kernel_rfl
theorem cells29 : Yba.prog.cellsOf 29 = 1 := by kernel_rfl
theorem cells21 : Yba.prog.cellsOf 21 = 1 := by kernel_rfl

section
variable {H : Type} {enc : TypeId × Value → H} {W : World} {base fuel : Nat} {held : Bool} {c : Value} {x : DataW H × List MemPlace}
theorem one {cs : List Value} {i : Nat} {t : TypeId} (ht : Yba.prog.cellsOf t = 1) (hc : (cs.drop i).take 1 = [c]) (h : DataW.trod enc Yba.prog W base (fun _ => true) held fuel t ((cs.drop i).take (Yba.prog.cellsOf t)) = some x) :
    DataW.trod enc Yba.prog W base (fun _ => true) held fuel t [c] = some x := by
  rw [ht, hc] at h; exact h
theorem row16 (h : DataW.trod enc Yba.prog W base (fun _ => true) held fuel 39 [c] = some x) : ∃ a len cap zs, c = .slice a len cap ∧ IsRow .u16 W a len cap zs := by
  rcases open_ints Yba.underlying39 Yba.underlying45 (by kernel_rfl) h with ⟨hcs, _⟩ | ⟨x, l, c, zs, hcs, _, hl, hm, hz, _, hcell, hwz⟩
  · simp at hcs
    exact ⟨none, 0, 0, [], hcs, .inl ⟨rfl, rfl, rfl, rfl⟩⟩
  · simp at hcs
    exact ⟨_, l, c, zs, hcs, .inr ⟨_, rfl, hl, hm, by simpa using hz, hcell, hwz⟩⟩
theorem row8 (h : DataW.trod enc Yba.prog W base (fun _ => true) held fuel 40 [c] = some x) : ∃ a len cap zs, c = .slice a len cap ∧ IsRow .u8 W a len cap zs := by
  rcases open_ints Yba.underlying40 Yba.underlying5 (by kernel_rfl) h with ⟨hcs, _⟩ | ⟨x, l, c, zs, hcs, _, hl, hm, hz, _, hcell, hwz⟩
  · simp at hcs
    exact ⟨none, 0, 0, [], hcs, .inl ⟨rfl, rfl, rfl, rfl⟩⟩
  · simp at hcs
    exact ⟨_, l, c, zs, hcs, .inr ⟨_, rfl, hl, hm, by simpa using hz, hcell, hwz⟩⟩
theorem boolc (h : DataW.trod enc Yba.prog W base (fun _ => true) held fuel 4 [c] = some x) : ∃ b, c = .bool b := by
  obtain ⟨b, e, -⟩ := DataW.trod_bool Yba.underlying4 h
  exact ⟨b, by simpa using e⟩
theorem u16c (h : DataW.trod enc Yba.prog W base (fun _ => true) held fuel 45 [c] = some x) : ∃ n, c = .int .u16 n ∧ 0 ≤ n ∧ n ≤ 65535 := by
  obtain ⟨n, e, -, hw⟩ := DataW.trod_int Yba.underlying45 h
  refine ⟨n, by simpa using e, ?_⟩
  simp [Lit.wf, IntKind.min, IntKind.max, IntKind.signed, IntKind.bits] at hw
  omega
theorem u64c (h : DataW.trod enc Yba.prog W base (fun _ => true) held fuel 29 [c] = some x) : ∃ n, c = .int .u64 n ∧ 0 ≤ n ∧ n ≤ 18446744073709551615 := by
  obtain ⟨n, e, -, hw⟩ := DataW.trod_int Yba.underlying29 h
  refine ⟨n, by simpa using e, ?_⟩
  simp [Lit.wf, IntKind.min, IntKind.max, IntKind.signed, IntKind.bits] at hw
  omega
theorem i32c (h : DataW.trod enc Yba.prog W base (fun _ => true) held fuel 21 [c] = some x) : ∃ n, c = .int .i32 n ∧ -2147483648 ≤ n ∧ n ≤ 2147483647 := by
  obtain ⟨n, e, -, hw⟩ := DataW.trod_int Yba.underlying21 h
  refine ⟨n, by simpa using e, ?_⟩
  simp [Lit.wf, IntKind.min, IntKind.max, IntKind.signed, IntKind.bits] at hw
  omega
end

set_option maxRecDepth 100000 in
theorem fields {H : Type} {enc : TypeId × Value → H} {W : World} {base fuel : Nat} {held : Bool} {cs : List Value} {x : DataW H × List MemPlace}
    (h : DataW.trod enc Yba.prog W base (fun _ => true) held fuel 47 cs = some x) :
    ∃ a0 a1 l0 k0 l1 k1 neg tlo tln hasT nlo nln hasN b0 b1 m0 d0 m1 d1 x y hasO r z0 z1 y0 y1, cs = argC a0 a1 l0 k0 l1 k1 neg tlo tln hasT nlo nln hasN b0 b1 m0 d0 m1 d1 x y hasO r ∧
      (IsRow .u16 W a0 l0 k0 z0 ∧ IsRow .u8 W a1 l1 k1 z1 ∧ IsRow .u16 W b0 m0 d0 y0 ∧ IsRow .u8 W b1 m1 d1 y1) ∧ (0 ≤ tlo ∧ tlo ≤ 65535) ∧ (0 ≤ tln ∧ tln ≤ 65535) ∧ (0 ≤ nlo ∧ nlo ≤ 65535) ∧ (0 ≤ nln ∧ nln ≤ 65535) ∧ (0 ≤ x ∧ x ≤ 18446744073709551615) ∧ (0 ≤ y ∧ y ≤ 18446744073709551615) ∧ (-2147483648 ≤ r ∧ r ≤ 2147483647) := by
  obtain ⟨xs, n, -, -, hlen, hxl, hf⟩ := DataW.trod_struct Yba.underlying47 h
  rw [cells47] at hlen
  clear h
  match cs, hlen with
  | [c0, c1, c2, c3, c4, c5, c6, c7, c8, c9, c10, c11, c12, c13, c14], _ =>
    match xs, hxl with
    | [x0, x1, x2, x3, x4, x5, x6, x7, x8, x9, x10, x11, x12, x13, x14], _ =>
      have f0 : DataW.trod enc Yba.prog W base (fun _ => true) held n 39 [c0] = some x0 := one cells39 rfl (hf 0 _ rfl)
      have f1 : DataW.trod enc Yba.prog W base (fun _ => true) held n 40 [c1] = some x1 := one cells40 rfl (hf 1 _ rfl)
      have f2 : DataW.trod enc Yba.prog W base (fun _ => true) held n 4 [c2] = some x2 := one cells4 rfl (hf 2 _ rfl)
      have f3 : DataW.trod enc Yba.prog W base (fun _ => true) held n 45 [c3] = some x3 := one cells45 rfl (hf 3 _ rfl)
      have f4 : DataW.trod enc Yba.prog W base (fun _ => true) held n 45 [c4] = some x4 := one cells45 rfl (hf 4 _ rfl)
      have f5 : DataW.trod enc Yba.prog W base (fun _ => true) held n 4 [c5] = some x5 := one cells4 rfl (hf 5 _ rfl)
      have f6 : DataW.trod enc Yba.prog W base (fun _ => true) held n 45 [c6] = some x6 := one cells45 rfl (hf 6 _ rfl)
      have f7 : DataW.trod enc Yba.prog W base (fun _ => true) held n 45 [c7] = some x7 := one cells45 rfl (hf 7 _ rfl)
      have f8 : DataW.trod enc Yba.prog W base (fun _ => true) held n 4 [c8] = some x8 := one cells4 rfl (hf 8 _ rfl)
      have f9 : DataW.trod enc Yba.prog W base (fun _ => true) held n 39 [c9] = some x9 := one cells39 rfl (hf 9 _ rfl)
      have f10 : DataW.trod enc Yba.prog W base (fun _ => true) held n 40 [c10] = some x10 := one cells40 rfl (hf 10 _ rfl)
      have f11 : DataW.trod enc Yba.prog W base (fun _ => true) held n 29 [c11] = some x11 := one cells29 rfl (hf 11 _ rfl)
      have f12 : DataW.trod enc Yba.prog W base (fun _ => true) held n 29 [c12] = some x12 := one cells29 rfl (hf 12 _ rfl)
      have f13 : DataW.trod enc Yba.prog W base (fun _ => true) held n 4 [c13] = some x13 := one cells4 rfl (hf 13 _ rfl)
      have f14 : DataW.trod enc Yba.prog W base (fun _ => true) held n 21 [c14] = some x14 := one cells21 rfl (hf 14 _ rfl)
      clear hf
      obtain ⟨a0, l0, k0, z0, rfl, w0⟩ := row16 f0
      obtain ⟨a1, l1, k1, z1, rfl, w1⟩ := row8 f1
      obtain ⟨neg, rfl⟩ := boolc f2
      obtain ⟨tlo, rfl, t0⟩ := u16c f3
      obtain ⟨tln, rfl, t1⟩ := u16c f4
      obtain ⟨hasT, rfl⟩ := boolc f5
      obtain ⟨nlo, rfl, n0⟩ := u16c f6
      obtain ⟨nln, rfl, n1⟩ := u16c f7
      obtain ⟨hasN, rfl⟩ := boolc f8
      obtain ⟨b0, m0, d0, y0, rfl, w2⟩ := row16 f9
      obtain ⟨b1, m1, d1, y1, rfl, w3⟩ := row8 f10
      obtain ⟨x, rfl, xx⟩ := u64c f11
      obtain ⟨y, rfl, yy⟩ := u64c f12
      obtain ⟨hasO, rfl⟩ := boolc f13
      obtain ⟨r, rfl, rr⟩ := i32c f14
      exact ⟨a0, a1, l0, k0, l1, k1, neg, tlo, tln, hasT, nlo, nln, hasN, b0, b1, m0, d0, m1, d1, x, y, hasO, r, z0, z1, y0, y1, rfl, ⟨w0, w1, w2, w3⟩, t0, t1, n0, n1, xx, yy, rr⟩

set_option maxRecDepth 100000 in
theorem lifted (os : Os) (started : os.Started) (H : Type) (enc : TypeId × Value → H) :
    ReturnsInHanded {} Yba.checked os 6 .any (Rows.lawS2238BWholeSpec.pre6 enc Yba.prog Yba.f6 Rows.lawS2238BWholeRow.domain false) (Rows.lawS2238BWholeSpec.post enc Yba.prog Yba.f6 false true false false) := by
  refine returnsInHanded_of_change (C := Yba.checked) own started (by kernel_rfl) Yba.func6
    (ChangeSpec.witness6 (enc := enc) (C := Yba.checked) false ⟨#[], #[.agg #[.slice none 0 0, .slice none 0 0, .bool false, .int .u16 0, .int .u16 0, .bool false, .int .u16 0, .int .u16 0, .bool false, .slice none 0 0, .slice none 0 0, .int .u64 0, .int .u64 0, .bool false, .int .i32 0]], []⟩ 8 (by kernel_rfl) (by kernel_rfl) (by kernel_rfl) (by kernel_rfl)) ?_
  intro W base args ds gs before hval0 hW hcnd _
  have hval : ∀ (j : Nat) t v, Yba.f6.params[j]? = some t → args[j]? = some v → Value.okWide Yba.prog W .any base t v := hval0
  have hW' := hW
  obtain ⟨p, q, hA0, hV, rfl, hfz, hnd⟩ := hW
  have hA : DataW.TrodAll enc Yba.prog W 0 (fun _ => true) true Yba.f6.params.toList args.toList ds p := hA0
  rw [Yba.params6] at hA hval
  obtain ⟨v0, vs0, d0, ds0, p0, q0, hargs, rfl, rfl, h0, r0⟩ := trodAll_cons hA
  obtain ⟨rfl, rfl, rfl⟩ := trodAll_nil r0
  obtain rfl : args = #[v0] := by cases args; simp_all
  obtain ⟨rfl, rfl⟩ := trodVars_none hV
  obtain ⟨cs, rfl, hcs⟩ := okWide_struct Yba.underlying47 (hval 0 47 v0 rfl rfl)
  have k0 := h0
  have lt0 : ∀ x ∈ p0, x.block < W.heap.size := by obtain ⟨m, hm⟩ := k0; exact DataW.trod_lt m _ _ _ hm
  obtain ⟨fuel, hf⟩ := h0
  obtain ⟨a0, a1, l0, k0', l1, k1, neg, tlo, tln, hasT, nlo, nln, hasN, b0, b1, m0, d0', m1, d1, x, y, hasO, r, z0, z1, y0, y1, he, ⟨w0, w1, w2, w3⟩, t0, t1, n0, n1, xx, yy, rr⟩ := fields (cs := cs.toList) (by simpa [Value.cells] using hf)
  obtain rfl : cs = (argC a0 a1 l0 k0' l1 k1 neg tlo tln hasT nlo nln hasN b0 b1 m0 d0' m1 d1 x y hasO r).toArray := by rw [← he]
  clear hA0 hval0
  refine (whole_law a0 a1 l0 k0' l1 k1 neg tlo tln hasT nlo nln hasN b0 b1 m0 d0' m1 d1 x y hasO r z0 z1 y0 y1 W w0 w1 w2 w3 t0.1 t0.2 t1.1 t1.2 n0.1 n0.2 n1.1 n1.2 xx.1 xx.2 yy.1 yy.2 rr.1 rr.2).mono fun e W' ⟨he, bel⟩ => ?_
  subst he
  exact ⟨_, rfl, _, _, _, [], _, [], hW', trodAll_mk1 (shut_bool Yba.underlying4 _), (trodAll_cons_mk (Below.trod laidOut (by kernel_rfl) (of_decide_eq_true (by kernel_rfl)) k0 bel lt0) trodAll_mk0), rfl, bel.frame _, fun h => by cases h⟩

theorem over : Rows.lawS2238BWholeRow.holds Yba.pinned (OpenSpec.ofChange Rows.lawS2238BWholeSpec) :=
  OpenClaim.holds_of_wide 6 Yba.f6 rfl rfl rfl rfl rfl rfl rfl ⟨rfl, rfl, rfl, rfl, rfl⟩ rfl rfl rfl rfl rfl (by kernel_rfl) Yba.func6 (by kernel_rfl)
    (of_decide_eq_true (by kernel_rfl)) (by unfold Func.isWrapper; first | (rw [if_pos (by decide +kernel)]; kernel_rfl) | (rw [if_neg (by decide +kernel)]; exact ⟨rfl, rfl⟩))
    (fun os started H enc _ => lifted os started H enc)

/-- THE STATEMENT. -/
theorem proved : Rows.LawS2238BWholeSaid := over
end Go.Proofs.Ybulkatic.lawS2238BWhole
