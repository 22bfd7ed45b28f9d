import Derived.Test.Qxb6617464aLaw
import Derived.ProofKit
import Derived.OpenShut
import Derived.ChangeOld
import Derived.Below
import Derived.Deep.Slices
namespace Go.Proofs.Qxb6617464a
open Go.ChangeShapes Go.WideShapes Go.ChangeAt Go.RowKit Go.Deep
set_option linter.unusedVariables false

theorem own : ownKnob Try.prog.godebug = none := by kernel_rfl
theorem laidOut : laidOutB Try.prog = true := by kernel_rfl
theorem Try.cells25 : Try.prog.cellsOf 25 = 4 := by kernel_rfl
theorem Try.cells23 : Try.prog.cellsOf 23 = 1 := by kernel_rfl
theorem fields25 {fs : Array Field} (h : Try.prog.underlying 25 = some (.struct fs)) : fs.toList.map (fun f => (f.type, f.offset)) = [(23, 0), (23, 1), (23, 2), (23, 3)] := by
  have hm : (Try.prog.underlying 25).map (fun d => match d with | .struct fs => fs.toList.map (fun f => (f.type, f.offset)) | _ => []) = some [(23, 0), (23, 1), (23, 2), (23, 3)] := by kernel_rfl
  rw [h] at hm
  simpa using hm

section
variable {H : Type} {enc : TypeId × Value → H} {W : World} {b0 : Nat} {sp : Nat → Bool} {held : Bool}
theorem trod_word {fuel : Nat} {cs : List Value} {x : DataW H × List MemPlace} (h : DataW.trod enc Try.prog W b0 sp held fuel 23 cs = some x) : ∃ n, cs = [.float .f64 n] ∧ n < 2 ^ 64 := by
  cases fuel with
  | zero => simp [DataW.trod] at h
  | succ n =>
    unfold DataW.trod at h
    rw [Try.underlying23] at h
    split at h
    case h_3 k k' b e =>
      have hk : FloatKind.f64 = k := by simpa using e
      subst hk
      simp only [Option.ite_none_right_eq_some] at h
      obtain ⟨⟨rfl, hw⟩, _⟩ := h
      exact ⟨_, rfl, by simpa [Lit.wf] using hw⟩
    all_goals simp_all

/-- A measure that came in: four words. -/
theorem open_m {fuel : Nat} {cs : List Value} {x : DataW H × List MemPlace} (hl : cs.length = 4) (h : DataW.trod enc Try.prog W b0 sp held fuel 25 cs = some x) :
    ∃ p0 p1 p2 p3, cs = [.float .f64 p0, .float .f64 p1, .float .f64 p2, .float .f64 p3] ∧ p0 < 2 ^ 64 ∧ p1 < 2 ^ 64 ∧ p2 < 2 ^ 64 ∧ p3 < 2 ^ 64 := by
  obtain ⟨fs, hfs⟩ : ∃ fs, Try.prog.underlying 25 = some (.struct fs) := ⟨_, Try.underlying25⟩
  have hmap := fields25 hfs
  obtain ⟨xs, m', hm', _, _, hxl, hall⟩ := DataW.trod_struct hfs h
  have hn : fs.size = 4 := by have := congrArg List.length hmap; simpa using this
  obtain ⟨v0, v1, v2, v3, rfl⟩ : ∃ v0 v1 v2 v3, cs = [v0, v1, v2, v3] := by
    match cs, hl with
    | [v0, v1, v2, v3], _ => exact ⟨v0, v1, v2, v3, rfl⟩
  have hf : ∀ i (hi : i < 4), ∃ t o z, ([(23, 0), (23, 1), (23, 2), (23, 3)] : List (TypeId × Nat))[i]? = some (t, o) ∧ DataW.trod enc Try.prog W b0 sp held m' t (([v0, v1, v2, v3].drop o).take (Try.prog.cellsOf t)) = some z := by
    intro i hi
    have hfi : fs[i]? = some (fs[i]'(by omega)) := Array.getElem?_eq_getElem (by omega)
    have hx := hall i _ hfi
    rw [List.getElem?_eq_getElem (by omega)] at hx
    refine ⟨_, _, _, ?_, hx⟩
    rw [← hmap]
    simp [hfi]
  obtain ⟨t, o, z, e, hx0⟩ := hf 0 (by omega)
  cases e
  obtain ⟨t, o, z1, e, hx1⟩ := hf 1 (by omega)
  cases e
  obtain ⟨t, o, z2, e, hx2⟩ := hf 2 (by omega)
  cases e
  obtain ⟨t, o, z3, e, hx3⟩ := hf 3 (by omega)
  cases e
  rw [Try.cells23] at hx0 hx1 hx2 hx3
  obtain ⟨p0, e0, l0⟩ := trod_word hx0
  obtain ⟨p1, e1, l1⟩ := trod_word hx1
  obtain ⟨p2, e2, l2⟩ := trod_word hx2
  obtain ⟨p3, e3, l3⟩ := trod_word hx3
  simp at e0 e1 e2 e3
  subst e0 e1 e2 e3
  exact ⟨p0, p1, p2, p3, rfl, l0, l1, l2, l3⟩

/-- The argument list that came in. -/
theorem open_list {fuel : Nat} {cs : List Value} {x : DataW H × List MemPlace} (h : DataW.trod enc Try.prog W b0 sp held fuel 22 cs = some x) :
    ∃ (A : Nat → Nat → Nat) (ao : Option Addr) (ga oa n cap : Nat), cs = [.slice ao n cap] ∧ Arg W A ao ga oa n ∧ Words A n := by
  rcases open_slice Try.underlying22 h with ⟨rfl, rfl⟩ | ⟨a, len, cap, m, n, D, Pl, rfl, hb, hl, hm, hmm, rfl, hx⟩
  · exact ⟨fun _ _ => 0, none, 0, 0, 0, 0, rfl, ⟨fun h => absurd h (by omega), fun k hk => absurd hk (by omega)⟩, fun f hf j hj => absurd hj (by omega)⟩
  have hlm : len ≤ m := by rw [hmm]; split <;> omega
  have each : ∀ i, i < len → ∃ q : Nat × Nat × Nat × Nat, (W.cell? (a.add (i * 4)) = some (.float .f64 q.1) ∧ W.cell? (a.add (i * 4 + 1)) = some (.float .f64 q.2.1) ∧ W.cell? (a.add (i * 4 + 2)) = some (.float .f64 q.2.2.1) ∧ W.cell? (a.add (i * 4 + 3)) = some (.float .f64 q.2.2.2)) ∧
      q.1 < 2 ^ 64 ∧ q.2.1 < 2 ^ 64 ∧ q.2.2.1 < 2 ^ 64 ∧ q.2.2.2 < 2 ^ 64 := by
    intro i hi
    obtain ⟨cs', h1, h2⟩ := hx i (by omega)
    rw [Try.cells25] at h1
    obtain ⟨_, hlen, hcell⟩ := World.cells?_some h1
    obtain ⟨p0, p1, p2, p3, rfl, l0, l1, l2, l3⟩ := open_m (by omega) h2
    have e0 := hcell 0 (by omega)
    have e1 := hcell 1 (by omega)
    have e2 := hcell 2 (by omega)
    have e3 := hcell 3 (by omega)
    rw [add_add] at e0 e1 e2 e3
    exact ⟨(p0, p1, p2, p3), ⟨by simpa using e0, by simpa using e1, by simpa using e2, by simpa using e3⟩, l0, l1, l2, l3⟩
  obtain ⟨q, hq⟩ := choose_lt each
  obtain ⟨b, off, spot⟩ := a
  have hspot : 0 < len → spot = none := fun h0 => by
    have := (hq 0 h0).1.1
    simpa [Addr.add] using World.cell?_spot this
  refine ⟨fun f i => four4 (q i).1 (q i).2.1 (q i).2.2.1 (q i).2.2.2 f, _, b, off, len, cap, rfl, ⟨fun h0 => by rw [hspot h0], fun k hk => ?_⟩, fun f hf j hj => ?_⟩
  · have hs := hspot (by omega)
    subst hs
    have hp : ∀ j : Nat, (⟨b, off, none⟩ : Addr).add j = ⟨b, off + j, none⟩ := fun j => by
      unfold Addr.add
      by_cases hj : j = 0 <;> simp [hj]
    obtain ⟨c0, c1, c2, c3⟩ := (hq k hk).1
    rw [hp] at c0 c1 c2 c3
    exact ⟨c0, c1, c2, c3⟩
  · obtain ⟨l0, l1, l2, l3⟩ := (hq j hj).2
    match f, hf with
    | 0, _ => exact l0
    | 1, _ => exact l1
    | 2, _ => exact l2
    | 3, _ => exact l3
end

set_option maxRecDepth 100000 in
theorem lifted3 (os : Os) (started : os.Started) (H : Type) (enc : TypeId × Value → H) :
    ReturnsInHanded {} Try.checked os 3 .any (Rows.fnMeanIsPaddedRunningSumOverCountSpec.pre6 enc Try.prog Try.f3 Rows.fnMeanIsPaddedRunningSumOverCountRow.domain false) (Rows.fnMeanIsPaddedRunningSumOverCountSpec.post enc Try.prog Try.f3 false true false false) := by
  refine returnsInHanded_of_change (C := Try.checked) own started (by kernel_rfl) Try.func3
    (ChangeSpec.witness6 (enc := enc) (C := Try.checked) false ⟨#[], #[.slice none 0 0, .agg #[.float .f64 0, .float .f64 0, .float .f64 0, .float .f64 0]], []⟩ 8 (by kernel_rfl) (by kernel_rfl) (by kernel_rfl) (by kernel_rfl)) ?_
  intro W base args ds gs before hval0 hW hcnd _
  have hval : ∀ (j : Nat) t v, Try.f3.params[j]? = some t → args[j]? = some v → Value.okWide Try.prog W .any base t v := hval0
  have hW' := hW
  obtain ⟨p, q, hA0, hV, rfl, hfz, hnd⟩ := hW
  have hA : DataW.TrodAll enc Try.prog W 0 (fun _ => true) true Try.f3.params.toList args.toList ds p := hA0
  rw [Try.params3] at hA hval
  obtain ⟨v0, vs0, d0, ds0, p0, q0, hargs, rfl, rfl, h0, r0⟩ := trodAll_cons hA
  obtain ⟨v1, vs1, d1, ds1, p1, q1, rfl, rfl, rfl, h1, r1⟩ := trodAll_cons r0
  obtain ⟨rfl, rfl, rfl⟩ := trodAll_nil r1
  obtain rfl : args = #[v0, v1] := by cases args; simp_all
  obtain ⟨rfl, rfl⟩ := trodVars_none hV
  have k0 := h0
  have k1 := h1
  have lt0 : ∀ x ∈ p0, x.block < W.heap.size := by obtain ⟨m, hm⟩ := k0; exact DataW.trod_lt m _ _ _ hm
  have lt1 : ∀ x ∈ p1, x.block < W.heap.size := by obtain ⟨m, hm⟩ := k1; exact DataW.trod_lt m _ _ _ hm
  obtain ⟨a, n0, cap0, rfl⟩ := okWide_slice Try.underlying22 (hval 0 22 v0 rfl rfl)
  obtain ⟨fuel, hf⟩ := h0
  obtain ⟨A, ao, ga, oa, n, cap, hcs, hArg, hWords⟩ := open_list hf
  have hcs' : a = ao ∧ n0 = n ∧ cap0 = cap := by simpa [Value.cells] using hcs
  obtain ⟨rfl, rfl, rfl⟩ := hcs'
  obtain ⟨fs, hfs⟩ : ∃ fs, Try.prog.underlying 25 = some (.struct fs) := ⟨_, Try.underlying25⟩
  obtain ⟨cs, rfl, hsz⟩ := okWide_struct hfs (hval 1 25 v1 rfl rfl)
  rw [Try.cells25] at hsz
  obtain ⟨fuel1, hf1⟩ := h1
  obtain ⟨x0, x1, x2, x3, hx, l0, l1, l2, l3⟩ := open_m (by simpa [Value.cells] using hsz) hf1
  have hx' : cs = #[.float .f64 x0, .float .f64 x1, .float .f64 x2, .float .f64 x3] := by
    have : cs.toList = _ := hx
    exact Array.toList_inj.1 this
  subst hx'
  clear hA0 hval0
  refine (law_any A x0 x1 x2 x3 a ga oa n0 cap0 W hArg hWords l0 l1 l2 l3).mono fun e W' ⟨he, bel⟩ => ?_
  subst he
  exact ⟨_, rfl, _, _, _, [], _, [], hW', trodAll_mk1 (shut_bool Try.underlying4 _), (trodAll_cons_mk (Below.trod laidOut (by kernel_rfl) (of_decide_eq_true (by kernel_rfl)) k0 bel lt0) (trodAll_cons_mk (Below.trod laidOut (by kernel_rfl) (of_decide_eq_true (by kernel_rfl)) k1 bel lt1) trodAll_mk0)), rfl, bel.frame _, fun h => by cases h⟩

theorem proved : Rows.FnMeanIsPaddedRunningSumOverCountSaid :=
  OpenClaim.holds_of_wide 3 Try.f3 rfl rfl rfl rfl rfl rfl rfl ⟨rfl, rfl, rfl, rfl, rfl⟩ rfl rfl rfl rfl rfl (by kernel_rfl) Try.func3 (by kernel_rfl)
    (of_decide_eq_true (by kernel_rfl)) (by unfold Func.isWrapper; first | (rw [if_pos (by decide +kernel)]; kernel_rfl) | (rw [if_neg (by decide +kernel)]; exact ⟨rfl, rfl⟩))
    (fun os started H enc _ => lifted3 os started H enc)
#print axioms proved
end Go.Proofs.Qxb6617464a
