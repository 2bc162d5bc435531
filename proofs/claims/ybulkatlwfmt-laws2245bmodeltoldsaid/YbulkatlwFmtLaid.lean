import Derived.Test.YbulkatlwFmtSmall
import Derived.Test.YbulkatlwFmtRows
import Derived.ProofKit
import Derived.LaidMore
import Derived.OpenShut
import Derived.Stop.Joined
namespace Go.Proofs.YbulkatlwFmt
open Go.ChangeShapes Go.WideShapes Go.ChangeAt Go.RowKit

theorem gname : Ybaf.prog.globalNamed (Rows.lawS2245BModelSpec.vars.getD 0 default) = some 0 := by kernel_rfl
theorem gtype : (Ybaf.prog.globals[0]?).map (·.type) = some 33 := by kernel_rfl
theorem cells34 : Ybaf.prog.cellsOf 34 = 5 := by kernel_rfl
theorem cells23 : Ybaf.prog.cellsOf 23 = 1 := by kernel_rfl
theorem cells9 : Ybaf.prog.cellsOf 9 = 1 := by kernel_rfl

theorem one {H : Type} {enc : TypeId × Value → H} {W : World} {base fuel : Nat} {sp : Nat → Bool} {held : Bool} {c : Value} {x : DataW H × List MemPlace} {cs : List Value} {i : Nat} {t : TypeId} (ht : Ybaf.prog.cellsOf t = 1) (hc : (cs.drop i).take 1 = [c])
    (h : DataW.trod enc Ybaf.prog W base sp held fuel t ((cs.drop i).take (Ybaf.prog.cellsOf t)) = some x) : DataW.trod enc Ybaf.prog W base sp held fuel t [c] = some x := by
  rw [ht, hc] at h; exact h
theorem str_of {W : World} {fuel : Nat} {sp : Nat → Bool} {held : Bool} {c : Value} {x : DataW Unit × List MemPlace} {s : List UInt8} (h : DataW.trod (fun _ => ()) Ybaf.prog W 0 sp held fuel 9 [c] = some x) (hx : x.1 = .lit (.string s)) : c = .string ⟨s.toArray⟩ := by
  obtain ⟨b, e, rfl, -⟩ := DataW.trod_string Ybaf.underlying9 h
  simp at e hx
  rw [e, ← hx]
theorem int_of {W : World} {fuel : Nat} {sp : Nat → Bool} {held : Bool} {c : Value} {x : DataW Unit × List MemPlace} {k : Int} (h : DataW.trod (fun _ => ()) Ybaf.prog W 0 sp held fuel 23 [c] = some x) (hx : x.1 = .lit (.int .u8 k)) : c = .int .u8 k := by
  obtain ⟨n, e, rfl, -⟩ := DataW.trod_int Ybaf.underlying23 h
  simp at e hx
  rw [e, ← hx]

set_option maxRecDepth 100000 in
theorem row_of {W : World} {a : Addr} {n : Nat} {sp : Nat → Bool} {held : Bool} {y : DataW Unit × List MemPlace} {F : Int} {N M L S : List UInt8} (h : (W.cells? 0 a 5).bind (DataW.trod (fun _ => ()) Ybaf.prog W 0 sp held n 34) = some y)
    (hy : y.1 = .agg [.lit (.int .u8 F), .lit (.string N), .lit (.string M), .lit (.string L), .lit (.string S)]) :
    W.cell? (a.add 0) = some (.int .u8 F) ∧ W.cell? (a.add 1) = some (.string ⟨N.toArray⟩) ∧ W.cell? (a.add 2) = some (.string ⟨M.toArray⟩) ∧ W.cell? (a.add 3) = some (.string ⟨L.toArray⟩) ∧ W.cell? (a.add 4) = some (.string ⟨S.toArray⟩) := by
  obtain ⟨cs, hcs, htr⟩ := Option.bind_eq_some_iff.1 h
  obtain ⟨-, hlen, hcell⟩ := World.cells?_some hcs
  obtain ⟨xs, m, -, hy2, -, hxl, hf⟩ := DataW.trod_struct Ybaf.underlying34 htr
  match cs, hlen with
  | [c0, c1, c2, c3, c4], _ =>
    match xs, hxl with
    | [x0, x1, x2, x3, x4], _ =>
      have f0 : DataW.trod (fun _ => ()) Ybaf.prog W 0 sp held m 23 [c0] = some x0 := one cells23 rfl (hf 0 _ rfl)
      have f1 : DataW.trod (fun _ => ()) Ybaf.prog W 0 sp held m 9 [c1] = some x1 := one cells9 rfl (hf 1 _ rfl)
      have f2 : DataW.trod (fun _ => ()) Ybaf.prog W 0 sp held m 9 [c2] = some x2 := one cells9 rfl (hf 2 _ rfl)
      have f3 : DataW.trod (fun _ => ()) Ybaf.prog W 0 sp held m 9 [c3] = some x3 := one cells9 rfl (hf 3 _ rfl)
      have f4 : DataW.trod (fun _ => ()) Ybaf.prog W 0 sp held m 9 [c4] = some x4 := one cells9 rfl (hf 4 _ rfl)
      rw [hy2] at hy
      simp only [List.map_cons, List.map_nil, DataW.agg.injEq, List.cons.injEq, and_true] at hy
      obtain ⟨e0, e1, e2, e3, e4⟩ := hy
      have r0 := int_of f0 e0
      have r1 := str_of f1 e1
      have r2 := str_of f2 e2
      have r3 := str_of f3 e3
      have r4 := str_of f4 e4
      subst r0 r1 r2 r3 r4
      exact ⟨hcell 0 (by omega), hcell 1 (by omega), hcell 2 (by omega), hcell 3 (by omega), hcell 4 (by omega)⟩

set_option maxRecDepth 100000 in
theorem of_laid {W : World} (h : laidMetH Ybaf.prog Rows.lawS2245BModelRow.laid W) : ∃ b off cap, MT W b off cap := by
  rw [MakeChecks.laidMetH_plain _ _ _ (by kernel_rfl)] at h
  obtain ⟨ps, ⟨g0, t0, cs0, f0, p0, q0, hg0, ht0, hv0, hd0, -, -⟩, -, -⟩ := h
  obtain rfl := Option.some.inj (gname.symm.trans hg0)
  obtain rfl := Option.some.inj (gtype.symm.trans ht0)
  rcases DataW.trod_slice Ybaf.underlying33 hd0 with ⟨_, hx⟩ | ⟨a, len, cap, elems, rest, n, -, hcs, hx, -, -, -, hlen, hel, -, -⟩
  · simp [Rows.laid_example_com_wireform_wireform_wfhttp_mediaTypes] at hx
  · simp only [Rows.laid_example_com_wireform_wireform_wfhttp_mediaTypes, Prod.mk.injEq, DataW.slice.injEq] at hx
    obtain ⟨⟨hx, -⟩, -⟩ := hx
    have hl5 : elems.length = 5 := by
      have := congrArg List.length hx
      simpa using this.symm
    obtain rfl : len = 5 := by omega
    rw [cells34] at hel
    match elems, hl5, hx, hel with
    | [y0, y1, y2, y3, y4], _, hx, hel =>
      simp only [List.map_cons, List.map_nil, List.cons.injEq, and_true] at hx
      obtain ⟨e0, e1, e2, e3, e4⟩ := hx
      have r0 := row_of (hel 0 (by omega)) e0.symm
      have r1 := row_of (hel 1 (by omega)) e1.symm
      have r2 := row_of (hel 2 (by omega)) e2.symm
      have r3 := row_of (hel 3 (by omega)) e3.symm
      have r4 := row_of (hel 4 (by omega)) e4.symm
      obtain ⟨b, off, spot⟩ := a
      have hspot : spot = none := by simpa [Addr.add] using World.cell?_spot r0.1
      subst hspot
      have hcell : W.cell? ⟨0, 0, none⟩ = some (.slice (some ⟨b, off, none⟩) 5 cap) := by
        have := World.var?_cell hg0 hv0 0
        rw [Array.eq_one_of_toList hcs] at this
        simpa using this
      have hb : b < W.heap.size := by have := block_lt_of_cell r0.1; exact this
      refine ⟨b, off, cap, hb, by have := block_lt_of_cell hcell; exact this, hcell, fun k hk => ?_⟩
      match k, hk with
      | 0, _ => exact r0
      | 1, _ => exact r1
      | 2, _ => exact r2
      | 3, _ => exact r3
      | 4, _ => exact r4
end Go.Proofs.YbulkatlwFmt
