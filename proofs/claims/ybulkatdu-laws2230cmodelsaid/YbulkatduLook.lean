import Derived.Test.YbulkatduFind
import Derived.Laws.ResultCell
namespace Go.Proofs.Ybulkatdu
open Go.RowKit
set_option linter.unusedSimpArgs false

/-- The zero target's cells. -/
def zc : List Value :=
  [.string ⟨#[]⟩, .int .u8 0, .int .u8 0, .int .u8 0, .int .u8 0, .int .u8 0, .int .u8 0, .int .u8 0, .int .u8 0, .int .u8 0, .int .u8 0, .int .u8 0, .int .u8 0, .int .u8 0, .int .u8 0, .int .u8 0, .int .u8 0, .int .u8 0,
   .int .u8 0, .int .u8 0, .int .u8 0, .int .u8 0, .int .u8 0, .int .u8 0, .int .u8 0, .int .u8 0, .int .u8 0, .int .u8 0, .int .u8 0, .int .u8 0, .int .u8 0, .int .u8 0, .int .u8 0, .slice none 0 0, .slice none 0 0]
theorem zc_len : zc.length = 35 := rfl
theorem zc_all : zc.toArray.all (·.oneCell') = true := by
  rw [Array.all_eq_true_iff_forall_mem]; intro u hu; simp only [zc, List.mem_toArray, List.mem_cons, List.not_mem_nil, or_false] at hu
  rcases hu with rfl | rfl | rfl | rfl | rfl | rfl | rfl | rfl | rfl | rfl | rfl | rfl | rfl | rfl | rfl | rfl | rfl | rfl | rfl | rfl | rfl | rfl | rfl | rfl | rfl | rfl | rfl | rfl | rfl | rfl | rfl | rfl | rfl | rfl | rfl <;> rfl
theorem tc_all (i : Nat) (h : Int) : (tc i h).toArray.all (·.oneCell') = true := by
  rw [Array.all_eq_true_iff_forall_mem]; intro u hu; exact tc_one i h u (by simpa using hu)
theorem built38 : Yba.prog.built 38 [] = some zc.toArray := by kernel_rfl

theorem TRow.later {w w' : World} {v : Value} {L : List Nat} {hf : Nat → Int} (h : TRow w v L hf) (hb : Below w.heap.size w w') : TRow w' v L hf := by
  obtain ⟨h1, h2⟩ := h
  refine ⟨h1, ?_⟩
  rcases h2 with h2 | ⟨g, cap, h2, h3, h4⟩
  · exact .inl h2
  · exact .inr ⟨g, cap, h2, Nat.lt_of_lt_of_le h3 hb.size, fun j hj => rangeAt_below hb h3 (h4 j hj)⟩

/-- A whole block is written: what is below it is as it was. -/
theorem below_setRow' {B : Nat} {w w' : World} (h : Below B w w') {g : Nat} (hg : B ≤ g) (cs : Array Value) : Below B w (w'.setRow g cs) :=
  h.trans ⟨rfl, rfl, rfl, by simp, fun k hk => setRow_other _ _ _ _ (by omega)⟩

theorem ret_row2 {fn : Func} (h : fn.results = #[.cell 4 38, .tmp 5]) (tmps : Array Value) (w : World) (g : Nat) (t : TypeId) (cs : Array Value) (fr : Nat × Nat) (b : Bool) (hp : tmps.getD 4 undef = .pointer (some ⟨g, 0, none⟩)) (hb : tmps.getD 5 undef = .bool b)
    (hg : w.heap[g]? = some (.cells cs t fr)) (hi : cs.size = 35) : (results fn tmps).run Yba.prog w = .ok (.tuple #[.agg cs, .bool b]) w := by
  rw [results_cell_tmp h, hp, hb]
  simp only [asAddr, Sem.run_pure, Result.andThen_ok, run_loadVar_row w g t 38 cs fr _ hg Yba.underlying38 rfl (by rw [hi]; exact Yba.size38)]

/-- What 'lookup' hands back. -/
def got (L : List Nat) (hf : Nat → Int) (q : Nat) : List Value := if L.contains q then tc q (hf q) else zc

theorem look_any (G : Nat) (v : Value) (L : List Nat) (hf : Nat → Int) (q : Nat) (w : World) (hG : w.cell? ⟨G, 2, none⟩ = some v) (hv : TRow w v L hf) (hL : L.Pairwise (· < ·)) (hq : q < 8) (h8 : ∀ i ∈ L, i < 8) :
    Calls Yba.prog 11 #[.pointer (some ⟨G, 0, none⟩), .string (nm q)] w fun e w' => e = .returned (.tuple #[.agg (got L hf q).toArray, .bool (L.contains q)]) ∧ Below w.heap.size w w' := by
  have hGl := block_lt_of_cell hG
  have hGa : ∀ o, (w.alloc o).cell? ⟨G, 2, none⟩ = some v := fun o => by rw [World.cell?_alloc_lt _ _ _ hGl]; exact hG
  go_enter Yba.func11, Yba.ntmps11
  go_wp2_with fail
  generalize hW : w.alloc _ = W
  replace hW : w.alloc (.cells zc.toArray 38) = W := hW
  have hbW : Below w.heap.size w W := by rw [← hW]; exact (Below.refl _ _).alloc (Nat.le_refl _) _
  have hsW : W.heap.size = w.heap.size + 1 := by rw [← hW]; simp
  have hRW : W.heap[w.heap.size]? = some (.cells zc.toArray 38 (0, 0)) := by rw [← hW]; exact heap_alloc_new _ _
  refine (find_any v L hf q W (hv.later hbW) hL hq h8).mono ?_
  rintro e w1 ⟨pos, rfl, hp, hb⟩
  have hR1 : w1.heap[w.heap.size]? = some (.cells zc.toArray 38 (0, 0)) := by rw [hb.block _ (by omega)]; exact hRW
  have hG1 : w1.cell? ⟨G, 2, none⟩ = some v := by rw [(hbW.trans (hb.mono (by omega))).cell (by exact hGl)]; exact hG
  have hb1 : Below w.heap.size w w1 := hbW.trans (hb.mono (by omega))
  clear hRW hGa
  cases hct : L.contains q with
  | false =>
    clear hp
    go_wp2_with (first
      | (refine wpList_build rfl 38 _ rfl (by rw [show _ = some zc.toArray from built38]; rfl) ?_; rw [show _ = some zc.toArray from built38]; dsimp only [Option.getD])
      | (refine wpList_store_row rfl 38 _ _ rfl w.heap.size zc.toArray rfl rfl 38 zc.toArray hR1 Yba.size38 rfl zc_all ?_))
    exact bodyPost_ret (ret_row2 Yba.results11 _ _ w.heap.size 38 zc.toArray (0, 0) false rfl rfl (setRow_heap w1 w.heap.size _ zc.toArray 38 _ hR1) rfl) rfl ⟨by rw [got, hct]; rfl, below_setRow' hb1 (Nat.le_refl _) _⟩
  | true =>
    obtain ⟨hp1, hp2⟩ := hp hct
    obtain ⟨hl, hv⟩ := hv
    rcases hv with ⟨rfl, rfl⟩ | ⟨g, cap, rfl, hg, hc⟩
    · simp at hp2
    · have hr := rangeAt_below hb1 hg (hc pos hp2)
      rw [hp1] at hr
      obtain ⟨n, hn⟩ : ∃ n, n = L.length := ⟨_, rfl⟩
      rw [← hn] at hp2 hG1 hl ⊢
      have HN : Hid (n = L.length) := hn
      clear hp hp1 hc hn
      go_wp2_with (first
        | (refine wpList_load_mid rfl 38 _ rfl g _ rfl (tc q (hf q)) _ hr Yba.underlying38 rfl Yba.size38 ?_)
        | (refine wpList_store_row rfl 38 _ _ rfl w.heap.size (tc q (hf q)).toArray rfl rfl 38 zc.toArray hR1 Yba.size38 rfl (tc_all _ _) ?_))
      exact bodyPost_ret (ret_row2 Yba.results11 _ _ w.heap.size 38 (tc q (hf q)).toArray (0, 0) true rfl rfl (setRow_heap w1 w.heap.size _ (tc q (hf q)).toArray 38 _ hR1) rfl) rfl ⟨by rw [got, hct]; rfl, below_setRow' hb1 (Nat.le_refl _) _⟩
end Go.Proofs.Ybulkatdu
