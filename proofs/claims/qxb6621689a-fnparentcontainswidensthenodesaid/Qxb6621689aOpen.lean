import Derived.Test.Qxb6621689aBase
import Derived.ProofKit
import Derived.OpenShut
import Derived.ChangeOld
import Derived.Below
namespace Go.Proofs.Qxb6621689a
open Go.ChangeShapes Go.WideShapes Go.ChangeAt Go.RowKit
set_option linter.unusedVariables false

theorem own : ownKnob Try.prog.godebug = none := by kernel_rfl
theorem laidOut : laidOutB Try.prog = true := by kernel_rfl
theorem Try.cells22 : Try.prog.cellsOf 22 = 16 := by kernel_rfl
theorem Try.cells5 : Try.prog.cellsOf 5 = 1 := by kernel_rfl

/-- A [16]byte that came in: sixteen bytes. -/
theorem open_arr {H : Type} {enc : TypeId × Value → H} {W : World} {base b0 : Nat} {sp : Nat → Bool} {held : Bool} {v : Value} {d : DataW H} {p : List MemPlace} (hv : Value.okWide Try.prog W .any base 22 v)
    (h : DataW.Trod enc Try.prog W b0 sp held 22 v d p) : ∃ xs, v = .agg (bl xs).toArray ∧ Bytes16 xs := by
  unfold Value.okWide at hv
  rw [Try.underlying22] at hv
  obtain ⟨cs, rfl, hsz, _⟩ := hv
  rw [Try.cells22] at hsz
  obtain ⟨fuel, hf⟩ := h
  obtain ⟨ys, m, _, _, hl, hn, hall⟩ := DataW.trod_array Try.underlying22 hf
  have hcell : ∀ i, i < 16 → ∃ n : Int, cs[i]? = some (.int .u8 n) ∧ 0 ≤ n ∧ n ≤ 255 := by
    intro i hi
    have hy := hall i hi
    rw [Try.cells5, Nat.mul_one] at hy
    have hyi : ys[i]? = some (ys[i]'(by omega)) := List.getElem?_eq_getElem (by omega)
    rw [hyi] at hy
    obtain ⟨n, e0, _, wn⟩ := DataW.trod_int Try.underlying5 hy
    have hb := bounds_u8 wn
    refine ⟨n, ?_, hb.1, hb.2⟩
    have e1 : ((Value.cells (.agg cs)).toList.drop i).take 1 = [cs[i]'(by omega)] := by
      simp only [Value.cells]
      rw [List.drop_eq_getElem_cons (by simp; omega)]
      simp
    rw [e1] at e0
    rw [Array.getElem?_eq_getElem (by omega)]
    simpa using e0
  refine ⟨cs.toList.map intOf, ?_, ⟨by simp [hsz], ?_⟩⟩
  · congr 1
    refine Array.ext_getElem? fun i => ?_
    by_cases hi : i < 16
    · obtain ⟨n, hn, _⟩ := hcell i hi
      simp [bl, hn, intOf]
    · rw [Array.getElem?_eq_none (by omega), Array.getElem?_eq_none (by simp [bl]; omega)]
  · intro n hn
    simp only [List.mem_map, Array.mem_toList_iff] at hn
    obtain ⟨v, hv, rfl⟩ := hn
    obtain ⟨i, hi, rfl⟩ := Array.getElem_of_mem hv
    obtain ⟨n, hn, hb⟩ := hcell i (by omega)
    rw [Array.getElem?_eq_getElem hi] at hn
    rw [Option.some.inj hn]
    exact hb
end Go.Proofs.Qxb6621689a
