import Derived.Test.Qxb6617464aRows
import Derived.Test.Qxb6617464aGood
import Derived.WalkKit
import Derived.WalkSpells
import Derived.WalkLawsBesides
import Derived.Laws.FloatArith
import Derived.Laws.MakeOwn
namespace Go.Proofs.Qxb6617464a
open Go.RowKit
set_option linter.unusedSimpArgs false
set_option linter.unusedVariables false

theorem hidden {p : Prop} (h : p) : Hid p := h
/-- The call came back with a bool that is true only if p holds. -/
def Only (p : Prop) (e : Ending) : Prop := ∃ b : Bool, e = .returned (.bool b) ∧ (b = true → p)
theorem f64 : FloatKind.f64.format = Ieee.double := rfl

theorem rung_neg {v : Nat} : rung (Op.negFloat .f64 v) = rung v := by
  unfold rung Op.negFloat
  show (v ^^^ 2 ^ 63) % 2 ^ 63 = v % 2 ^ 63
  rw [Nat.xor_mod_two_pow]
  simp

/-- The walk's law for a store of a float: the kit has it for every other kind of cell. -/
theorem run_store_float (P : Program) (w : World) (a : Addr) (m : Mode) (k : FloatKind) (b : Nat) : (store a (.float k b) m).run P w = stored P w a (.float k b) m := run_store P w a _ m rfl
attribute [local go_sem] run_store_float

/-! ### zzInRange -/
set_option maxHeartbeats 400000 in
theorem range_any (v : Nat) (w : World) (hv : v < 2 ^ 64) :
    Calls Try.prog 9 #[.float .f64 v] w fun e w' => Only (InR v) e ∧ w' = w := by
  have HV := hidden hv
  clear hv
  by_cases h0 : (FloatKind.f64.format.order v 0 == some .eq) = true
  · have HI := hidden (inr_zero_of HV.out h0)
    go_enter Try.func9, Try.ntmps9
    go_wp2
    go_ret
    exact ⟨⟨true, rfl, fun _ => HI.out⟩, rfl⟩
  · have h0f : (FloatKind.f64.format.order v 0 == some .eq) = false := by simpa using h0
    clear h0
    by_cases h1 : (FloatKind.f64.format.order v 0 == some .lt) = true
    · have hneg : ∀ w, (Op.unary .neg (.float .f64 v)).run Try.prog w = .ok (.float .f64 (Op.negFloat .f64 v)) w := fun _ => rfl
      have HR : Hid (rung (Op.negFloat .f64 v) = rung v) := rung_neg
      generalize Op.negFloat .f64 v = nv at *
      by_cases h2 : (FloatKind.f64.format.order nv 553942754166571008 == some .gt || FloatKind.f64.format.order nv 553942754166571008 == some .eq) = true
      · have HI : Hid ((FloatKind.f64.format.order nv 8660422083433463808 == some .lt || FloatKind.f64.format.order nv 8660422083433463808 == some .eq) = true → InR v) := fun h => inr_of HV.out HR.out h2 h
        go_enter Try.func9, Try.ntmps9
        go_wp2
        go_ret
        exact ⟨⟨_, rfl, HI.out⟩, rfl⟩
      · have h2f : (FloatKind.f64.format.order nv 553942754166571008 == some .gt || FloatKind.f64.format.order nv 553942754166571008 == some .eq) = false := by simpa using h2
        clear h2
        go_enter Try.func9, Try.ntmps9
        go_wp2
        go_ret
        exact ⟨⟨false, rfl, fun h => by cases h⟩, rfl⟩
    · have h1f : (FloatKind.f64.format.order v 0 == some .lt) = false := by simpa using h1
      clear h1
      have HR : Hid (rung v = rung v) := rfl
      by_cases h2 : (FloatKind.f64.format.order v 553942754166571008 == some .gt || FloatKind.f64.format.order v 553942754166571008 == some .eq) = true
      · have HI : Hid ((FloatKind.f64.format.order v 8660422083433463808 == some .lt || FloatKind.f64.format.order v 8660422083433463808 == some .eq) = true → InR v) := fun h => inr_of HV.out HR.out h2 h
        go_enter Try.func9, Try.ntmps9
        go_wp2
        go_ret
        exact ⟨⟨_, rfl, HI.out⟩, rfl⟩
      · have h2f : (FloatKind.f64.format.order v 553942754166571008 == some .gt || FloatKind.f64.format.order v 553942754166571008 == some .eq) = false := by simpa using h2
        clear h2
        go_enter Try.func9, Try.ntmps9
        go_wp2
        go_ret
        exact ⟨⟨false, rfl, fun h => by cases h⟩, rfl⟩

/-! ### zzOk -/
set_option maxHeartbeats 1000000 in
theorem ok_any (p0 p1 p2 p3 : Nat) (w : World) (h0 : p0 < 2 ^ 64) (h1 : p1 < 2 ^ 64) (h2 : p2 < 2 ^ 64) (h3 : p3 < 2 ^ 64) :
    Calls Try.prog 5 #[.agg #[.float .f64 p0, .float .f64 p1, .float .f64 p2, .float .f64 p3]] w fun e w' => Only (InR p0 ∧ InR p1 ∧ InR p2 ∧ InR p3) e ∧ Below w.heap.size w w' := by
  have H0 := hidden h0
  have H1 := hidden h1
  have H2 := hidden h2
  have H3 := hidden h3
  have HB : Hid (Below w.heap.size w (w.alloc (.cells #[.float .f64 p0, .float .f64 p1, .float .f64 p2, .float .f64 p3] 25))) := (Below.refl _ _).alloc (Nat.le_refl _) _
  clear h0 h1 h2 h3
  go_enter Try.func5, Try.ntmps5
  go_wp2_with fail
  refine (range_any p0 _ H0.out).mono ?_
  rintro e w' ⟨⟨b, rfl, hb⟩, rfl⟩
  cases b with
  | false =>
    clear hb
    go_wp2
    go_ret
    exact ⟨⟨false, rfl, fun h => by cases h⟩, HB.out⟩
  | true =>
    have I0 := hidden (hb rfl)
    clear hb
    go_wp2_with fail
    refine (range_any p1 _ H1.out).mono ?_
    rintro e w' ⟨⟨b, rfl, hb⟩, rfl⟩
    cases b with
    | false =>
      clear hb
      go_wp2
      go_ret
      exact ⟨⟨false, rfl, fun h => by cases h⟩, HB.out⟩
    | true =>
      have I1 := hidden (hb rfl)
      clear hb
      go_wp2_with fail
      refine (range_any p2 _ H2.out).mono ?_
      rintro e w' ⟨⟨b, rfl, hb⟩, rfl⟩
      cases b with
      | false =>
        clear hb
        go_wp2
        go_ret
        exact ⟨⟨false, rfl, fun h => by cases h⟩, HB.out⟩
      | true =>
        have I2 := hidden (hb rfl)
        clear hb
        go_wp2_with fail
        refine (range_any p3 _ H3.out).mono ?_
        rintro e w' ⟨⟨b, rfl, hb⟩, rfl⟩
        cases b with
        | false =>
          clear hb
          go_wp2
          go_ret
          exact ⟨⟨false, rfl, fun h => by cases h⟩, HB.out⟩
        | true =>
          have I3 := hidden (hb rfl)
          clear hb
          go_wp2
          go_ret
          exact ⟨⟨true, rfl, fun _ => ⟨I0.out, I1.out, I2.out, I3.out⟩⟩, HB.out⟩

/-! ### zzToEval -/
set_option maxHeartbeats 1000000 in
theorem toeval_any (p0 p1 p2 p3 : Nat) (w : World) :
    Calls Try.prog 8 #[.agg #[.float .f64 p0, .float .f64 p1, .float .f64 p2, .float .f64 p3]] w fun e w' => e = .returned (.agg #[.float .f64 p0, .float .f64 p1, .float .f64 p2, .float .f64 p3]) ∧ Below w.heap.size w w' := by
  go_enter Try.func8, Try.ntmps8
  go_wp2
  refine bodyPost_ret (v := .agg #[.float .f64 p0, .float .f64 p1, .float .f64 p2, .float .f64 p3]) (by simp [results, Try.results8, go_sem]) rfl ⟨rfl, ?_⟩
  exact ((Below.refl _ _).alloc (Nat.le_refl _) _).alloc (by simp) _

/-! ### zzBytes -/
set_option maxHeartbeats 400000 in
theorem bytes_yes (ao : Option Addr) (n cap p0 p1 p2 p3 : Nat) (w : World) (h : n ≤ 1048576) :
    Calls Try.prog 4 #[.slice ao n cap, .agg #[.float .f64 p0, .float .f64 p1, .float .f64 p2, .float .f64 p3]] w fun e w' => e = .returned (.bool true) ∧ Below w.heap.size w w' := by
  have h1 : (n : Int) ≤ 1048576 := by omega
  go_enter Try.func4, Try.ntmps4
  go_wp2
  go_ret
  exact ⟨rfl, (Below.refl _ _).alloc (Nat.le_refl _) _⟩
set_option maxHeartbeats 400000 in
theorem bytes_no (ao : Option Addr) (n cap p0 p1 p2 p3 : Nat) (w : World) (h : ¬ n ≤ 1048576) :
    Calls Try.prog 4 #[.slice ao n cap, .agg #[.float .f64 p0, .float .f64 p1, .float .f64 p2, .float .f64 p3]] w fun e w' => e = .returned (.bool false) ∧ Below w.heap.size w w' := by
  have h1 : (1048576 : Int) < (n : Int) := by omega
  go_enter Try.func4, Try.ntmps4
  go_wp2
  go_ret
  exact ⟨rfl, (Below.refl _ _).alloc (Nat.le_refl _) _⟩
end Go.Proofs.Qxb6617464a
