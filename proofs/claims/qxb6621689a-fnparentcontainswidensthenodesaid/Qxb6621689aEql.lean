import Derived.Test.Qxb6621689aLay
namespace Go.Proofs.Qxb6621689a
open Go.RowKit
set_option linter.unusedSimpArgs false

/-- One round of the comparison of two arrays. -/
theorem equal_round {P : Program} (w : World) (d : Nat) (A : Array Value) (e : TypeId) (hu : P.underlying e = some (.int .u8)) (l : List Nat) (hl : ∀ i ∈ l, ∃ n : Int, A[i]? = some (.int .u8 n)) :
    (forIn (m := Sem) l ((none, ()) : Option Bool × Unit) (fun i _ => do
      if !(← Op.equalIn (d + 1) e (← part e A (i * 1)) (← part e A (i * 1))) then pure (ForInStep.done (some false, ()))
      else pure (ForInStep.yield (none, ())))).run P w = .ok (none, ()) w := by
  induction l with
  | nil => simp
  | cons i l ih =>
    obtain ⟨n, hn⟩ := hl i (List.mem_cons_self ..)
    have hp : (part e A (i * 1)).run P w = .ok (.int .u8 n) w := by
      simp [part, isAgg, Sem.run_bind, run_underlying hu, hn]
    rw [List.forIn_cons]
    simp only [Sem.run_bind, hp, Result.andThen_ok, run_equalIn_int w d e .u8 .u8 n n hu]
    simp only [beq_self_eq_true, Bool.not_true, Bool.false_eq_true, if_false, Sem.run_pure, Result.andThen_ok]
    exact ih fun j hj => hl j (List.mem_cons_of_mem _ hj)

theorem Try.size5 : (Try.prog.info? 5).map (·.size) = some 1 := by kernel_rfl

theorem equal_arr (w : World) (d : Nat) (xs : List Int) (hx : Bytes16 xs) : (Op.equalIn (d + 2) 24 (.agg (bl xs).toArray) (.agg (bl xs).toArray)).run Try.prog w = .ok true w := by
  have hs : (sizeOf 5).run Try.prog w = .ok 1 w := by kernel_rfl
  unfold Op.equalIn
  simp only [Sem.run_bind, run_underlying Try.underlying24, Result.andThen_ok, hs]
  have := equal_round w d (bl xs).toArray 5 Try.underlying5 (List.range' 0 16) (fun i hi => ⟨_, by
    have : i < 16 := by simpa using hi
    have := bl_get xs i (by rw [hx.len]; exact this)
    simpa using this⟩)
  rw [Std.Legacy.Range.forIn_eq_forIn_range']
  simp only [Std.Legacy.Range.size, Nat.sub_zero, Nat.add_sub_cancel, Nat.div_one]
  rw [this]
  rfl

theorem Try.size24v (w : World) : (sizeOf 24).run Try.prog w = .ok 16 w := by kernel_rfl

theorem part_bits (xs : List Int) (n : Int) (hx : Bytes16 xs) (w : World) : (part 24 (pl xs n).toArray 0).run Try.prog w = .ok (.agg (bl xs).toArray) w := by
  have he : (pl xs n).toArray.extract 0 16 = (bl xs).toArray := by
    simp [pl, bl, hx.len]
  unfold part
  rw [Sem.run_bind]
  have ha : (isAgg 24).run Try.prog w = .ok true w := by
    unfold isAgg; rw [Sem.run_bind, run_underlying Try.underlying24]; rfl
  rw [ha]
  simp only [Result.andThen_ok, if_true, Sem.run_bind, Try.size24v, Sem.run_pure, Nat.zero_add, he]
theorem part_len (xs : List Int) (n : Int) (hx : Bytes16 xs) (w : World) : (part 3 (pl xs n).toArray 16).run Try.prog w = .ok (.int .i64 n) w := by
  have := pl_last xs n hx.len
  simp [part, isAgg, Sem.run_bind, run_underlying Try.underlying3, this]
theorem map26 : (Try.prog.fieldsOf 26).toList.map (fun f => (f.name, f.type, f.offset)) = [("bits", 24, 0), ("length", 3, 16)] := by kernel_rfl
theorem two_of {l : List Field} {a b : String} {t u : TypeId} {o p : Nat} (h : l.map (fun f => (f.name, f.type, f.offset)) = [(a, t, o), (b, u, p)]) :
    ∃ f g, l = [f, g] ∧ f.name = a ∧ f.type = t ∧ f.offset = o ∧ g.name = b ∧ g.type = u ∧ g.offset = p := by
  match l, h with
  | [f, g], h =>
    simp only [List.map_cons, List.map_nil, List.cons.injEq, Prod.mk.injEq, and_true] at h
    exact ⟨f, g, rfl, h.1.1, h.1.2.1, h.1.2.2, h.2.1, h.2.2.1, h.2.2.2⟩
theorem eqF (d : Nat) (xs : List Int) (n : Int) (hx : Bytes16 xs) (w : World) : (Op.eqFields (d + 2) (pl xs n).toArray (pl xs n).toArray (Try.prog.fieldsOf 26).toList).run Try.prog w = .ok true w := by
  obtain ⟨f, g, hF, f1, f2, f3, g1, g2, g3⟩ := two_of map26
  rw [hF]
  have ne1 : ("bits" : String) ≠ "_" := by decide
  have ne2 : ("length" : String) ≠ "_" := by decide
  simp only [Op.eqFields, Sem.run_bind, Sem.run_ite, f1, f2, f3, g1, g2, g3, part_bits xs n hx, part_len xs n hx, Result.andThen_ok, equal_arr w d xs hx, run_equalIn_int w (d + 1) 3 .i64 .i64 n n Try.underlying3, if_true, beq_self_eq_true, Sem.run_pure]
  rw [if_pos ne1, if_neg (by simp), if_pos ne2, if_neg (by simp)]
theorem under26 : Try.prog.underlying 26 = some (.struct (Try.prog.fieldsOf 26)) := by kernel_rfl
theorem held26 : Try.prog.stoodInHeld 26 = false := by kernel_rfl
theorem equal26 (d : Nat) (xs : List Int) (n : Int) (hx : Bytes16 xs) (w : World) : (Op.equalIn (d + 3) 26 (.agg (pl xs n).toArray) (.agg (pl xs n).toArray)).run Try.prog w = .ok true w := by
  rw [run_equalIn_struct w (d + 2) 26 _ _ under26 held26]
  exact eqF d xs n hx w
theorem eql_self (xs : List Int) (n : Int) (hx : Bytes16 xs) (w : World) : (binOp .eql 26 (.agg (pl xs n).toArray) (.agg (pl xs n).toArray)).run Try.prog w = .ok (.bool true) w := by
  rw [run_eql_struct]
  have := equal26 9997 xs n hx w
  rw [this]
  rfl
theorem guard26 : Try.prog.eqGuardType Try.prog.depth 26 = false := by kernel_rfl
theorem exec_eql {P : Program} {w : World} {a : Act} {o : Oper} (t : TypeId) (x y : Operand) (yt : TypeId) (ho : o.op = .binOp .eql t x y yt) (A : Array Value) (hx : a.eval x = .agg A) (hy : a.eval y = .agg A)
    (hm : P.eqGuardType P.depth t = false) (he : (binOp .eql t (.agg A) (.agg A)).run P w = .ok (.bool true) w) : (execOp a.eval o).run P w = .ok (.value (.bool true)) w := by
  unfold execOp
  simp only [ho, hx, hy, Sem.run_bind, run_eqGuard_agg w .eql t x y A A hm, Result.andThen_ok, he, Sem.run_pure]
theorem wpList_eql {P : Program} {ops : Array Oper} {rest : List Oper} {op : Oper} {a : Act} {w : World} {Q : Exit → Act → World → Prop} (hgd : op.guard = none) (t : TypeId) (x y : Operand) (yt : TypeId) (ho : op.op = .binOp .eql t x y yt) (A : Array Value) (hx : a.eval x = .agg A) (hy : a.eval y = .agg A)
    (hm : P.eqGuardType P.depth t = false) (he : (binOp .eql t (.agg A) (.agg A)).run P w = .ok (.bool true) w)
    (h : wpList P ops Q rest (a.put op.dst (.bool true)) w) : wpList P ops Q (op :: rest) a w :=
  wpList_plain hgd fun _ hK => by
    unfold Oper.wp
    rw [exec_eql t x y yt ho A hx hy hm he]
    exact hK _ _ h
end Go.Proofs.Qxb6621689a
