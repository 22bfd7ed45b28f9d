import Derived.Test.Qxb6621689aPlain
namespace Go.Proofs.Qxb6621689a
open Go.RowKit
set_option linter.unusedSimpArgs false
set_option linter.unusedVariables false

/-- A new variable that is stored into at once. -/
theorem lay_below (w : World) (Z : Array Value) (t : TypeId) (cs : List Value) : Below w.heap.size w ((w.alloc (.cells Z t)).setCells w.heap.size 0 cs) :=
  below_setCells _ (Nat.le_refl _) _ _ _ ((Below.refl _ _).alloc (Nat.le_refl _) _)
theorem lay_range (w : World) (Z : Array Value) (t : TypeId) (cs : List Value) (h : Z.size = cs.length) : ((w.alloc (.cells Z t)).setCells w.heap.size 0 cs).rangeAt w.heap.size 0 cs :=
  World.rangeAt_setCells_same _ _ _ _ (by rw [← h]; exact there_new w Z t)
theorem lay_size (w : World) (Z : Array Value) (t : TypeId) (cs : List Value) : ((w.alloc (.cells Z t)).setCells w.heap.size 0 cs).heap.size = w.heap.size + 1 := by
  rw [size_setCells]; simp
theorem range_lay {w : World} {b : Nat} {cs : List Value} (h : w.rangeAt b 0 cs) (hb : b < w.heap.size) (Z : Array Value) (t : TypeId) (ds : List Value) : ((w.alloc (.cells Z t)).setCells w.heap.size 0 ds).rangeAt b 0 cs :=
  range_below (lay_below w Z t ds) h hb

theorem wpList_load_want {P : Program} {ops : Array Oper} {rest : List Oper} {op : Oper} {a : Act} {w : World} {Q : Exit → Act → World → Prop} (hw : Region.wanted op (yielded ops a.tmps) = true) (ty : TypeId) (x : Operand) (ho : op.op = .load ty x)
    (b o : Nat) (hx : a.eval x = .pointer (some ⟨b, o, none⟩)) (cs : List Value) (d : TypeDesc) (hc : w.rangeAt b o cs)
    (hu : P.underlying ty = some d) (hd : d.isRow = true) (hi : (P.info? ty).map (·.size) = some cs.length)
    (h : wpList P ops Q rest (a.put op.dst (.agg cs.toArray)) w) : wpList P ops Q (op :: rest) a w :=
  wpList_step fun _ hK => by rw [if_pos hw]; exact wp_load_mid ty x ho b o hx cs d hc hu hd hi (hK _ _ h)

end Go.Proofs.Qxb6621689a
