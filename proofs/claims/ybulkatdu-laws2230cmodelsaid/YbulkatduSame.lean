import Derived.Test.YbulkatduState
namespace Go.Proofs.Ybulkatdu
open Go.RowKit
set_option linter.unusedSimpArgs false

theorem run_part5 (cs : Array Value) (i : Nat) (a : Int) (h : cs[i]? = some (.int .u8 a)) (w : World) : (part 5 cs i).run Yba.prog w = .ok (.int .u8 a) w := by
  have := Yba.isAgg5
  simp [part, this, h]

theorem run_eqArr (d : Nat) (xs ys : Array Value) (f g : Nat → Int) (w : World) (is : List Nat) (h : ∀ i ∈ is, xs[i]? = some (.int .u8 (f i)) ∧ ys[i]? = some (.int .u8 (g i))) :
    (forIn is ((none, ()) : Option Bool × Unit) fun i _ => do
      let x ← part 5 xs (i * 1)
      let y ← part 5 ys (i * 1)
      let e ← Op.equalIn (d + 1) 5 x y
      if (!e) = true then pure (ForInStep.done (some false, ())) else pure (ForInStep.yield (none, ())) : Sem (Option Bool × Unit)).run Yba.prog w =
    .ok (if is.all (fun i => f i == g i) then (none, ()) else (some false, ())) w := by
  induction is with
  | nil => simp
  | cons i is ih =>
    obtain ⟨h1, h2⟩ := h i (by simp)
    have ih' := ih (fun j hj => h j (by simp [hj]))
    simp only [List.forIn_cons, Sem.run_bind, Nat.mul_one, run_part5 _ _ _ h1, run_part5 _ _ _ h2, Result.andThen_ok, run_equalIn_int w d 5 .u8 .u8 (f i) (g i) Yba.underlying5]
    by_cases he : f i = g i
    · simp only [he, beq_self_eq_true, Bool.not_true, Bool.false_eq_true, if_false, Sem.run_pure, Result.andThen_ok, List.all_cons, Bool.true_and]
      simpa using ih'
    · simp [he]

theorem hcs_at (x y : Int) (i : Nat) (h : i < 32) : (hcs x y).toArray[i]? = some (.int .u8 (if i = 0 then x else if i = 31 then y else 0)) := by
  have : ∀ j, j < 32 → (hcs x y).toArray[j]? = some (.int .u8 (if j = 0 then x else if j = 31 then y else 0)) := by
    intro j hj
    match j, hj with
    | 0, _ => rfl
    | 1, _ => rfl
    | 2, _ => rfl
    | 3, _ => rfl
    | 4, _ => rfl
    | 5, _ => rfl
    | 6, _ => rfl
    | 7, _ => rfl
    | 8, _ => rfl
    | 9, _ => rfl
    | 10, _ => rfl
    | 11, _ => rfl
    | 12, _ => rfl
    | 13, _ => rfl
    | 14, _ => rfl
    | 15, _ => rfl
    | 16, _ => rfl
    | 17, _ => rfl
    | 18, _ => rfl
    | 19, _ => rfl
    | 20, _ => rfl
    | 21, _ => rfl
    | 22, _ => rfl
    | 23, _ => rfl
    | 24, _ => rfl
    | 25, _ => rfl
    | 26, _ => rfl
    | 27, _ => rfl
    | 28, _ => rfl
    | 29, _ => rfl
    | 30, _ => rfl
    | 31, _ => rfl
    | n + 32, h => omega
  exact this i h

theorem all32 (x y x' y' : Int) : ((List.range' 0 32).all fun i => (if i = 0 then x else if i = 31 then y else 0) == (if i = 0 then x' else if i = 31 then y' else 0)) = (x == x' && y == y') := by
  rw [Bool.eq_iff_iff]
  simp only [List.all_eq_true, List.mem_range'_1, Nat.zero_le, true_and, beq_iff_eq, Bool.and_eq_true]
  constructor
  · intro h
    exact ⟨by simpa using h 0 (by omega), by simpa using h 31 (by omega)⟩
  · rintro ⟨rfl, rfl⟩ i _
    rfl

theorem arr36 (d : Nat) (x y x' y' : Int) (w : World) : (Op.equalIn (d + 2) 36 (.agg (hcs x y).toArray) (.agg (hcs x' y').toArray)).run Yba.prog w = .ok (x == x' && y == y') w := by
  have hs : (sizeOf 5).run Yba.prog w = .ok 1 w := Yba.sizeOf5 w
  have hl := run_eqArr d (hcs x y).toArray (hcs x' y').toArray (fun i => if i = 0 then x else if i = 31 then y else 0) (fun i => if i = 0 then x' else if i = 31 then y' else 0) w (List.range' 0 32) (by
    intro i hi
    simp only [List.mem_range'_1, Nat.zero_le, true_and] at hi
    exact ⟨hcs_at _ _ _ (by omega), hcs_at _ _ _ (by omega)⟩)
  rw [all32] at hl
  generalize hd : d + 1 = e at hl
  rw [show d + 2 = e + 1 by omega]
  simp only [Op.equalIn, Sem.run_bind, run_underlying Yba.underlying36, Result.andThen_ok, run_program, hs]
  rw [Std.Legacy.Range.forIn_eq_forIn_range']
  rw [show List.range' [:32].start [:32].size [:32].step = List.range' 0 32 from rfl, hl]
  cases (x == x' && y == y') <;> simp

theorem part36 (b : Bool) (x y : Int) (w : World) : (part 36 (scs b x y).toArray 1).run Yba.prog w = .ok (.agg (hcs x y).toArray) w := by
  simp only [part, Sem.run_bind, Yba.isAgg36, Result.andThen_ok, if_true, Yba.sizeOf36, Sem.run_pure, List.extract_toArray]
  rfl
theorem part4 (b : Bool) (x y : Int) (w : World) : (part 4 (scs b x y).toArray 0).run Yba.prog w = .ok (.bool b) w := by
  simp only [part, Sem.run_bind, Yba.isAgg4, Result.andThen_ok, Bool.false_eq_true, if_false]
  rfl
theorem stood44 : Yba.prog.stoodInHeld 44 = false := by kernel_rfl
theorem under44 : Yba.prog.underlying 44 = some (.struct (Yba.prog.fieldsOf 44)) := by kernel_rfl
theorem fields44 : ∃ f0 f1, (Yba.prog.fieldsOf 44).toList = [f0, f1] ∧ (f0.name == "_") = false ∧ f0.type = 4 ∧ f0.offset = 0 ∧ (f1.name == "_") = false ∧ f1.type = 36 ∧ f1.offset = 1 := by
  have h := Yba.underlying44
  rw [under44] at h
  simp only [Option.some.injEq, TypeDesc.struct.injEq] at h
  rw [h]
  exact ⟨_, _, rfl, rfl, rfl, rfl, rfl, rfl, rfl⟩
theorem guard44 : Yba.prog.eqGuardType Yba.prog.depth 44 = false := by kernel_rfl

theorem eq44 (d : Nat) (b b' : Bool) (x y x' y' : Int) (w : World) : (Op.equalIn (d + 3) 44 (.agg (scs b x y).toArray) (.agg (scs b' x' y').toArray)).run Yba.prog w = .ok (b == b' && (x == x' && y == y')) w := by
  have h36 := arr36 d x y x' y' w
  have h4 := run_equalIn_bool' w (d + 1) 4 b b' Yba.underlying4
  rw [run_equalIn_struct w (d + 2) 44 _ _ under44 stood44]
  obtain ⟨f0, f1, hfs, n0, t0, o0, n1, t1, o1⟩ := fields44
  have n0' : f0.name ≠ "_" := by simpa using n0
  have n1' : f1.name ≠ "_" := by simpa using n1
  rw [hfs]
  simp only [Op.eqFields, if_pos n0', if_pos n1', Sem.run_bind, t0, o0, t1, o1, part4, part36, Result.andThen_ok, h4]
  cases hb : (b == b')
  · simp
  · simp only [Bool.not_true, Bool.false_eq_true, if_false, Bool.true_and, Sem.run_bind, part36, Result.andThen_ok]
    rw [h36]
    cases (x == x' && y == y') <;> simp

theorem eql44 (b b' : Bool) (x y x' y' : Int) (w : World) : (binOp .eql 44 (.agg (scs b x y).toArray) (.agg (scs b' x' y').toArray)).run Yba.prog w = .ok (.bool (b == b' && (x == x' && y == y'))) w := by
  rw [run_eql_struct, show (10000 : Nat) = 9997 + 3 from rfl, eq44]
  rfl

theorem wpList_eql44 {ops : Array Oper} {rest : List Oper} {op : Oper} {a : Act} {w : World} {Q : Exit → Act → World → Prop} (hgd : op.guard = none) (x y : Operand) (rt : TypeId) (ho : op.op = .binOp .eql 44 x y rt)
    (b b' : Bool) (p q p' q' : Int) (hx : a.eval x = .agg (scs b p q).toArray) (hy : a.eval y = .agg (scs b' p' q').toArray)
    (h : wpList Yba.prog ops Q rest (a.put op.dst (.bool (b == b' && (p == p' && q == q')))) w) : wpList Yba.prog ops Q (op :: rest) a w :=
  wpList_plain hgd fun _ hK => by
    unfold Oper.wp execOp
    simp only [ho, hx, hy, Sem.run_bind, run_eqGuard_agg (P := Yba.prog) w .eql 44 x y _ _ guard44, Result.andThen_ok, eql44]
    exact hK _ _ h

/-- Do the two graphs hold the same under q? -/
def sameB (L1 : List Nat) (f1 : Nat → Int) (L2 : List Nat) (f2 : Nat → Int) (q : Nat) : Bool := (L1.contains q == L2.contains q && (gx L1 f1 q == gx L2 f2 q && gy L1 f1 q == gy L2 f2 q))

/-- The graph at block G: its targets' numbers and hashes. -/
def IsG (w : World) (G : Nat) (L : List Nat) (hf : Nat → Int) : Prop := ∃ v, w.cell? ⟨G, 2, none⟩ = some v ∧ TRow w v L hf ∧ L.Pairwise (· < ·) ∧ ∀ i ∈ L, i < 8

theorem IsG.later {w w' : World} {G : Nat} {L : List Nat} {hf : Nat → Int} (h : IsG w G L hf) (hb : Below w.heap.size w w') : IsG w' G L hf := by
  obtain ⟨v, h1, h2, h3, h4⟩ := h
  exact ⟨v, by rw [hb.cell (by exact block_lt_of_cell h1)]; exact h1, h2.later hb, h3, h4⟩

theorem same_any (G1 G2 : Nat) (L1 L2 : List Nat) (f1 f2 : Nat → Int) (q : Nat) (w : World) (h1 : IsG w G1 L1 f1) (h2 : IsG w G2 L2 f2) (hq : q < 8) :
    Calls Yba.prog 10 #[.pointer (some ⟨G1, 0, none⟩), .pointer (some ⟨G2, 0, none⟩), .string (nm q)] w fun e w' => e = .returned (.bool (sameB L1 f1 L2 f2 q)) ∧ Below w.heap.size w w' := by
  obtain ⟨v1, c1, t1, p1, m1⟩ := h1
  have c1' : ∃ v, w.cell? ⟨G1, 2, none⟩ = some v := ⟨_, c1⟩
  go_enter Yba.func10, Yba.ntmps10
  go_wp2_with fail
  refine (state_any G1 v1 L1 f1 q w c1 t1 p1 hq m1).mono ?_
  rintro e w1 ⟨rfl, hb1⟩
  clear c1'
  obtain ⟨v2, c2, t2, p2, m2⟩ := h2.later hb1
  go_wp2_with fail
  refine (state_any G2 v2 L2 f2 q w1 c2 t2 p2 hq m2).mono ?_
  rintro e w2 ⟨rfl, hb2⟩
  clear h2 c1 c2 t1 t2 p1 p2 m1 m2
  go_wp2_with (refine wpList_eql44 rfl _ _ _ rfl _ _ _ _ _ _ rfl rfl ?_)
  go_ret
  exact ⟨by simp [sameB], hb1.trans (hb2.mono hb1.size)⟩
end Go.Proofs.Ybulkatdu
