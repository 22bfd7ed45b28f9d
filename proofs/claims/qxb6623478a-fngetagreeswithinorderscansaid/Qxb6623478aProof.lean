import Derived.Test.Qxb6623478aLaw
import Derived.ProofKit
import Derived.OpenShut
import Derived.ShutString
import Derived.ChangeOld
import Derived.Below
namespace Go.Proofs.Qxb6623478a
open Go.ChangeShapes Go.WideShapes Go.ChangeAt Go.RowKit Go.Deep
open Go.ChangeMaps (open_string shut_string)
set_option linter.unusedVariables false

theorem own : ownKnob Try.prog.godebug = none := by kernel_rfl
theorem laidOut : laidOutB Try.prog = true := by kernel_rfl
theorem Try.cells34 : Try.prog.cellsOf 34 = 5 := by kernel_rfl
theorem Try.cells9 : Try.prog.cellsOf 9 = 1 := by kernel_rfl
theorem Try.cells32 : Try.prog.cellsOf 32 = 1 := by kernel_rfl
theorem Try.cells22 : Try.prog.cellsOf 22 = 1 := by kernel_rfl

theorem fields34 {fs : Array Field} (h : Try.prog.underlying 34 = some (.struct fs)) : fs.toList.map (fun f => (f.type, f.offset)) = [(9, 0), (9, 1), (32, 2), (22, 3), (22, 4)] := by
  have hm : (Try.prog.underlying 34).map (fun d => match d with | .struct fs => fs.toList.map (fun f => (f.type, f.offset)) | _ => []) = some [(9, 0), (9, 1), (32, 2), (22, 3), (22, 4)] := by kernel_rfl
  rw [h] at hm
  simpa using hm

/-- What reads as a pointer to a Node is a tree that lies in the world. -/
theorem open_tr {H : Type} {enc : TypeId × Value → H} {W : World} {b0 : Nat} {sp : Nat → Bool} {held : Bool} : ∀ (fuel : Nat) (cs : List Value) (x : DataW H × List MemPlace), DataW.trod enc Try.prog W b0 sp held fuel 22 cs = some x →
    ∃ T : Tr, cs = [T.ptr] ∧ Lies W T := by
  intro fuel
  induction fuel using Nat.strongRecOn with
  | _ fuel ih =>
    intro cs x h
    rcases DataW.trod_pointer Try.underlying22 h with ⟨rfl, rfl⟩ | ⟨a, cs', y, m, rfl, rfl, rfl, hcells, hy⟩
    · exact ⟨.nil, rfl, trivial⟩
    · obtain ⟨_, hl, hcell⟩ := World.cells?_some hcells
      rw [Try.cells34] at hcell hl
      obtain ⟨fs, hfs⟩ : ∃ fs, Try.prog.underlying 34 = some (.struct fs) := ⟨_, Try.underlying34⟩
      have hmap := fields34 hfs
      obtain ⟨xs, m', hm', _, _, hxl, hall⟩ := DataW.trod_struct hfs hy
      have hn : fs.size = 5 := by have := congrArg List.length hmap; simpa using this
      obtain ⟨v0, v1, v2, v3, v4, rfl⟩ : ∃ v0 v1 v2 v3 v4, cs' = [v0, v1, v2, v3, v4] := by
        match cs', hl with
        | [v0, v1, v2, v3, v4], _ => exact ⟨v0, v1, v2, v3, v4, rfl⟩
      have hf : ∀ i (hi : i < 5), ∃ t o z, ([(9, 0), (9, 1), (32, 2), (22, 3), (22, 4)] : List (TypeId × Nat))[i]? = some (t, o) ∧ DataW.trod enc Try.prog W b0 sp held m' t (([v0, v1, v2, v3, v4].drop o).take (Try.prog.cellsOf t)) = some z := by
        intro i hi
        have hfi : fs[i]? = some (fs[i]'(by omega)) := Array.getElem?_eq_getElem (by omega)
        have hx := hall i _ hfi
        rw [List.getElem?_eq_getElem (by omega)] at hx
        refine ⟨_, _, _, ?_, hx⟩
        rw [← hmap]
        simp [hfi]
      obtain ⟨t, o, z, e, hx0⟩ := hf 0 (by omega)
      cases e
      obtain ⟨t, o, z1, e, hx1⟩ := hf 1 (by omega)
      cases e
      obtain ⟨t, o, z2, e, hx2⟩ := hf 2 (by omega)
      cases e
      obtain ⟨t, o, z3, e, hx3⟩ := hf 3 (by omega)
      cases e
      obtain ⟨t, o, z4, e, hx4⟩ := hf 4 (by omega)
      cases e
      rw [Try.cells9] at hx0 hx1
      rw [Try.cells32] at hx2
      rw [Try.cells22] at hx3 hx4
      obtain ⟨s0, e0, _⟩ := DataW.trod_string Try.underlying9 hx0
      obtain ⟨s1, e1, _⟩ := DataW.trod_string Try.underlying9 hx1
      obtain ⟨p2, e2, _⟩ := DataW.trod_int Try.underlying32 hx2
      obtain ⟨Tl, e3, hL⟩ := ih m' (by omega) _ _ hx3
      obtain ⟨Tr', e4, hR⟩ := ih m' (by omega) _ _ hx4
      simp at e0 e1 e2 e3 e4
      subst e0 e1 e2 e3 e4
      obtain ⟨b, off, spot⟩ := a
      have h0 := hcell 0 (by omega)
      have hspot : spot = none := by simpa [Addr.add] using World.cell?_spot h0
      subst hspot
      have hc : ∀ i, i < 5 → W.cell? ⟨b, off + i, none⟩ = [Value.string s0, Value.string s1, Value.int .u64 p2, Tl.ptr, Tr'.ptr][i]? := fun i hi => by
        have := hcell i hi
        rwa [add_plain] at this
      exact ⟨.node b off (s0, s1, p2) Tl Tr', rfl, hc 0 (by omega), hc 1 (by omega), hc 2 (by omega), hc 3 (by omega), hc 4 (by omega), hL, hR⟩

set_option maxRecDepth 100000 in
theorem lifted3 (os : Os) (started : os.Started) (H : Type) (enc : TypeId × Value → H) :
    ReturnsInHanded {} Try.checked os 3 .any (Rows.fnGetAgreesWithInorderScanSpec.pre6 enc Try.prog Try.f3 Rows.fnGetAgreesWithInorderScanRow.domain false) (Rows.fnGetAgreesWithInorderScanSpec.post enc Try.prog Try.f3 false true false false) := by
  refine returnsInHanded_of_change (C := Try.checked) own started (by kernel_rfl) Try.func3
    (ChangeSpec.witness6 (enc := enc) (C := Try.checked) false ⟨#[], #[.pointer none, .string ByteArray.empty], []⟩ 8 (by kernel_rfl) (by kernel_rfl) (by kernel_rfl) (by kernel_rfl)) ?_
  intro W base args ds gs before hval0 hW hcnd _
  have hval : ∀ (j : Nat) t v, Try.f3.params[j]? = some t → args[j]? = some v → Value.okWide Try.prog W .any base t v := hval0
  have hW' := hW
  obtain ⟨p, q, hA0, hV, rfl, hfz, hnd⟩ := hW
  have hA : DataW.TrodAll enc Try.prog W 0 (fun _ => true) true Try.f3.params.toList args.toList ds p := hA0
  rw [Try.params3] at hA hval
  obtain ⟨v0, vs0, d0, ds0, p0, q0, hargs, rfl, rfl, h0, r0⟩ := trodAll_cons hA
  obtain ⟨v1, vs1, d1, ds1, p1, q1, rfl, rfl, rfl, h1, r1⟩ := trodAll_cons r0
  obtain ⟨rfl, rfl, rfl⟩ := trodAll_nil r1
  obtain rfl : args = #[v0, v1] := by cases args; simp_all
  obtain ⟨rfl, rfl⟩ := trodVars_none hV
  have k0 := h0
  have lt0 : ∀ x ∈ p0, x.block < W.heap.size := by obtain ⟨m, hm⟩ := k0; exact DataW.trod_lt m _ _ _ hm
  obtain ⟨a0, rfl⟩ := okWide_pointer Try.underlying22 (hval 0 22 v0 rfl rfl)
  obtain ⟨fuel, hf⟩ := h0
  obtain ⟨T, hT, hL⟩ := open_tr fuel _ _ hf
  have hT' : (Value.pointer a0) = T.ptr := by simpa [Value.cells] using hT
  obtain ⟨key, rfl, rfl, rfl, w1⟩ := open_string Try.underlying9 (hval 1 9 v1 rfl rfl) h1
  clear hA0 hval0
  rw [hT'] at k0 hW' ⊢
  refine (law_any T key W w1 hL).mono fun e W' ⟨he, bel⟩ => ?_
  subst he
  exact ⟨_, rfl, _, _, _, [], _, [], hW', trodAll_mk1 (shut_bool Try.underlying4 _), (trodAll_cons_mk (Below.trod laidOut (by kernel_rfl) (of_decide_eq_true (by kernel_rfl)) k0 bel lt0) (trodAll_cons_mk (shut_string Try.underlying9 w1) trodAll_mk0)), rfl, bel.frame _, fun h => by cases h⟩

theorem proved : Rows.FnGetAgreesWithInorderScanSaid :=
  OpenClaim.holds_of_wide 3 Try.f3 rfl rfl rfl rfl rfl rfl rfl ⟨rfl, rfl, rfl, rfl, rfl⟩ rfl rfl rfl rfl rfl (by kernel_rfl) Try.func3 (by kernel_rfl)
    (of_decide_eq_true (by kernel_rfl)) (by unfold Func.isWrapper; first | (rw [if_pos (by decide +kernel)]; kernel_rfl) | (rw [if_neg (by decide +kernel)]; exact ⟨rfl, rfl⟩))
    (fun os started H enc _ => lifted3 os started H enc)
#print axioms proved
end Go.Proofs.Qxb6623478a
