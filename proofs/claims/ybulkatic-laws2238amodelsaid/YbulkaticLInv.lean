import Derived.Test.YbulkaticFinB
import Derived.Test.YbulkaticCheck
namespace Go.Proofs.Ybulkatic
open Go.RowKit

/-- What holds ahead of the last finishing. -/
structure LInv (w ws : World) (C ga gb gc cc : Nat) (A B : List (Int × Int)) (neg : Bool) (ov : Value) : Prop where
  bel : Below w.heap.size w ws
  ra : RowAt ws ga A
  rb : RowAt ws gb B
  rc : RowAt ws gc A
  cls : Cls ws C neg (.slice (some ⟨gc, 0, none⟩) A.length cc) ov 0 0
  le : w.heap.size ≤ ga ∧ ga < gb ∧ gb < gc ∧ gc < C

theorem LInv.kept {w ws ws' : World} {C ga gb gc cc : Nat} {A B : List (Int × Int)} {neg : Bool} {ov : Value} (h : LInv w ws C ga gb gc cc A B neg ov) {S : List Nat} (k : Kp S ws ws') (hS : ∀ b, b ∈ S → C < b) : LInv w ws' C ga gb gc cc A B neg ov := by
  have l := h.le
  have n : ∀ b, b ≤ C → b ∉ S := fun b hb hh => by have := hS b hh; omega
  exact ⟨h.bel.trans (k.below h.bel.size fun b hb => by have := hS b hb; omega), h.ra.kept k (n _ (by omega)), h.rb.kept k (n _ (by omega)), h.rc.kept k (n _ (by omega)), h.cls.kept k (n _ (by omega)), l⟩
theorem LInv.setOv {w ws : World} {C ga gb gc cc : Nat} {A B : List (Int × Int)} {neg : Bool} {ov : Value} (h : LInv w ws C ga gb gc cc A B neg ov) (u : Value) : LInv w (ws.setCell ⟨C, 4, none⟩ u) C ga gb gc cc A B neg u := by
  have l := h.le
  have k : Kp [C] ws (ws.setCell ⟨C, 4, none⟩ u) := (Kp.refl _ ws).setCell (by simp) u
  have e : ∀ j, j ≠ 4 → (ws.setCell ⟨C, 4, none⟩ u).cell? ⟨C, j, none⟩ = ws.cell? ⟨C, j, none⟩ := fun j hj => by rw [World.cell?_setCell_other (h := by intro e; injection e with e1 e2; omega)]
  have c := h.cls
  exact ⟨h.bel.setCell (by show _ ≤ C; omega) u, h.ra.kept k (by simp; omega), h.rb.kept k (by simp; omega), h.rc.kept k (by simp; omega),
    ⟨by simpa using c.lt, by rw [e 0 (by omega)]; exact c.c0, by rw [e 1 (by omega)]; exact c.c1, by rw [e 2 (by omega)]; exact c.c2, by rw [e 3 (by omega)]; exact c.c3, World.cell?_setCell_same _ _ _ (u := _) c.c4, by rw [e 5 (by omega)]; exact c.c5, by rw [e 6 (by omega)]; exact c.c6, fun j => by rw [World.frozen?_setCell]; exact c.fz j⟩, l⟩

/-- A set that was just made. -/
theorem cls_new (w : World) (neg : Bool) (v : Value) : Cls (w.alloc (.cells #[.bool neg, v, .slice none 0 0, .slice none 0 0, .slice none 0 0, .int .u64 0, .int .u64 0] 32)) w.heap.size neg v (.slice none 0 0) 0 0 := by
  refine ⟨by simp, ?_, ?_, ?_, ?_, ?_, ?_, ?_, fun j => World.frozen?_alloc_new _ _ _ j⟩ <;> · rw [World.cell?_alloc_new]; rfl

/-- The other set is laid into the set at C. -/
theorem oth_new {w5 : World} {C gc O go cd : Nat} {x y : Int} {J B : List (Int × Int)} (hF : Cls w5 O false (.slice (some ⟨go, 0, none⟩) J.length cd) (.slice none 0 0) x y ∧ RowAt w5 go J ∧ Asc J ∧ J.length ≤ 1024 ∧ (∀ r, inRs J r = inRs B r) ∧ BitsOK x y (inRs J)) (hC : C < O) (hgo : C < go) (hgc : gc < C) :
    OthC ((w5.alloc (.cells #[.pointer (some ⟨O, 0, none⟩)] 26)).setCell ⟨C, 4, none⟩ (.slice (some ⟨w5.heap.size, 0, none⟩) 1 1)) [C, gc] (.slice (some ⟨w5.heap.size, 0, none⟩) 1 1) (fun r => true && inRs B r) := by
  obtain ⟨h1, h2, h3, h4, h5, h6⟩ := hF
  have l1 := h1.lt
  have k : Kp [C] w5 ((w5.alloc (.cells #[.pointer (some ⟨O, 0, none⟩)] 26)).setCell ⟨C, 4, none⟩ (.slice (some ⟨w5.heap.size, 0, none⟩) 1 1)) := ((Kp.refl [C] w5).alloc _).setCell (by simp) _
  refine .inr ⟨w5.heap.size, O, go, cd, x, y, J, rfl, ⟨by simp, ?_⟩, ⟨by simp; omega, by simp; omega, by simp; omega⟩, h1.kept k (by simp; omega), h2.kept k (by simp; omega), h3, by omega, h6, fun r => by rw [h5]; simp⟩
  rw [World.cell?_setCell_other (h := by intro e; injection e with e1 e2; omega), World.cell?_alloc_new]; rfl

/-- What holds behind the last finishing. -/
def LFin (w ws : World) (C : Nat) (va vb : Value) (A B : List (Int × Int)) (f : Int → Bool) : Prop :=
  Below w.heap.size w ws ∧ Fin ws C f ∧ RRow ws va A ∧ RRow ws vb B
theorem LFin.later {w ws ws' : World} {C : Nat} {va vb : Value} {A B : List (Int × Int)} {f : Int → Bool} (h : LFin w ws C va vb A B f) (hb : Below ws.heap.size ws ws') : LFin w ws' C va vb A B f :=
  ⟨h.1.trans (hb.mono h.1.size), h.2.1.later hb, h.2.2.1.later hb, h.2.2.2.later hb⟩

theorem LInv.fin {w ws w' : World} {C ga gb gc cc ca cb : Nat} {A B J : List (Int × Int)} {neg : Bool} {ov : Value} {x y : Int} {ob f : Int → Bool} (h : LInv w ws C ga gb gc cc A B neg ov) (ho : OthC ws [C, gc] ov ob)
    (hC : Cls w' C neg (.slice (some ⟨gc, 0, none⟩) J.length cc) ov x y) (hr : RowAt w' gc J) (ha : Asc J) (hl : J.length ≤ 1024) (hi : ∀ r, inRs J r = inRs A r) (hb : BitsOK x y (fun r => (inRs J r || ob r) != neg)) (hk : Kp [C, gc] ws w')
    (hf : ∀ r, f r = ((inRs A r || ob r) != neg)) : LFin w w' C (.slice (some ⟨ga, 0, none⟩) A.length ca) (.slice (some ⟨gb, 0, none⟩) B.length cb) A B f := by
  have l := h.le
  refine ⟨h.bel.trans (hk.below h.bel.size fun b hb => by simp at hb; omega), ⟨gc, cc, neg, ov, x, y, J, [C, gc], ob, hC, hr, ha, by omega, ho.kept hk fun b hb => hb, hb, fun r => by rw [hf, hi]⟩, (h.ra.kept hk (by simp; omega)).row ca, (h.rb.kept hk (by simp; omega)).row cb⟩
end Go.Proofs.Ybulkatic
