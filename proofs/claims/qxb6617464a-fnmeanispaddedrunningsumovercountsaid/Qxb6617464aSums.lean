import Derived.Test.Qxb6617464aPad
namespace Go.Proofs.Qxb6617464a
open Go.RowKit
set_option linter.unusedSimpArgs false
set_option linter.unusedVariables false

theorem rs_congr {e e' : Nat → Nat} : ∀ {k : Nat}, (∀ j, j < k → e j = e' j) → rs e k = rs e' k
  | 0, _ => rfl
  | k + 1, h => by
    unfold rs
    rw [rs_congr (k := k) (fun j hj => h j (by omega)), h k (by omega)]
theorem rs_good {e : Nat → Nat} {n : Nat} (hn : n ≤ 8192) (h : ∀ j, j < n → InR (e j)) : ∀ k, k ≤ n → Good k (rs e k)
  | 0, _ => good_zero 0
  | k + 1, hk => by
    obtain ⟨R, h1, h2⟩ := good_add (rs_good hn h k (by omega)) (h k (by omega)) (by omega)
    have : rs e (k + 1) = R := by
      show (Ieee.double.add (rs e k) (e k)).getD 0 = R
      rw [h1]; rfl
    rw [this]; exact h2
theorem rs_step {e : Nat → Nat} {n : Nat} (hn : n ≤ 8192) (h : ∀ j, j < n → InR (e j)) (k : Nat) (hk : k < n) : Ieee.double.add (rs e k) (e k) = some (rs e (k + 1)) := by
  obtain ⟨R, h1, h2⟩ := good_add (rs_good hn h k (by omega)) (h k hk) (by omega)
  show _ = some ((Ieee.double.add (rs e k) (e k)).getD 0)
  rw [h1]; rfl
theorem rs_pad {e : Nat → Nat} {m : Nat} (hI : ∀ j, j < 8192 → InR (e j)) (h0 : ∀ j, m ≤ j → e j = 0) (k : Nat) (hk : m ≤ k) (hk2 : k ≤ 8192) : rs e k = rs e m := by
  induction k with
  | zero => rw [show m = 0 by omega]
  | succ k ih =>
    by_cases he : m = k + 1
    · rw [he]
    · have ih' := ih (by omega) (by omega)
      have hs := rs_step (n := 8192) (by omega) hI k (by omega)
      rw [h0 k (by omega), good_add_zero (rs_good (n := 8192) (by omega) hI k (by omega))] at hs
      rw [← ih']
      exact (Option.some.inj hs).symm

theorem c13 : floatOfInt .f64 ((8192 : Nat) : Int) = C13 := by decide +kernel
theorem count (n : Nat) (h1 : 1 ≤ n) (h2 : n ≤ 8192) : rung (floatOfInt .f64 (n : Int)) < INF ∧ 0 < rung (floatOfInt .f64 (n : Int)) := count_fin h1 h2

/-- Four words as a measure. -/
def Mes (D : Nat → Nat) : Value := .agg #[.float .f64 (D 0), .float .f64 (D 1), .float .f64 (D 2), .float .f64 (D 3)]
theorem pick {p : Nat → Nat → Prop} (h : ∀ f, f < 4 → ∃ x, p f x) : ∃ D : Nat → Nat, ∀ f, f < 4 → p f (D f) := by
  obtain ⟨a, ha⟩ := h 0 (by omega)
  obtain ⟨b, hb⟩ := h 1 (by omega)
  obtain ⟨c, hc⟩ := h 2 (by omega)
  obtain ⟨d, hd⟩ := h 3 (by omega)
  refine ⟨fun f => match f with | 0 => a | 1 => b | 2 => c | _ => d, fun f hf => ?_⟩
  match f, hf with
  | 0, _ => exact ha
  | 1, _ => exact hb
  | 2, _ => exact hc
  | 3, _ => exact hd

theorem mean_pad (P : Nat → Nat → Nat) (g m : Nat) (w : World) (hm : m ≤ 4097) (hI : ∀ f, f < 4 → ∀ j, j < m → InR (P f j)) (h0 : ∀ f, f < 4 → ∀ j, m ≤ j → P f j = 0) (hr : Row 8192 w g P) :
    Calls Try.prog 6 #[.slice (some ⟨g, 0, none⟩) 8192 8192] w fun e w' => (∃ D : Nat → Nat, e = .returned (Mes D) ∧ ∀ f, f < 4 → Ieee.double.mul (D f) C13 = some (rs (P f) m)) ∧ Below w.heap.size w w' := by
  have hall : ∀ f, f < 4 → ∀ j, j < 8192 → InR (P f j) := fun f hf j hj => by
    by_cases h : j < m
    · exact hI f hf j h
    · rw [h0 f hf j (by omega)]; exact inr_zero
  obtain ⟨D, hD⟩ := pick (p := fun f x => Ieee.double.div (rs (P f) m) C13 = some x ∧ Ieee.double.mul x C13 = some (rs (P f) m)) fun f hf => good_scale (rs_good (n := m) (by omega) (hI f hf) m (Nat.le_refl _)) hm
  have hq : ∀ f, f < 4 → Ieee.double.div (rs (P f) 8192) (floatOfInt .f64 ((8192 : Nat) : Int)) = some (D f) := fun f hf => by
    rw [c13, rs_pad (hall f hf) (h0 f hf) 8192 (by omega) (by omega)]; exact (hD f hf).1
  refine (mean_any P g 8192 8192 (D 0) (D 1) (D 2) (D 3) w (by omega) (by omega) hr.four (fun f hf k hk => rs_step (by omega) (hall f hf) k hk) (hq 0 (by omega)) (hq 1 (by omega)) (hq 2 (by omega)) (hq 3 (by omega))).mono ?_
  rintro e w' ⟨rfl, hb⟩
  exact ⟨⟨D, rfl, fun f hf => (hD f hf).2⟩, hb⟩

theorem mean_direct (P : Nat → Nat → Nat) (g n : Nat) (w : World) (h1 : 1 ≤ n) (hn : n ≤ 4096) (hI : ∀ f, f < 4 → ∀ j, j < n → InR (P f j)) (hr : Row n w g P) :
    Calls Try.prog 6 #[.slice (some ⟨g, 0, none⟩) n n] w fun e w' => (∃ Q : Nat → Nat, e = .returned (Mes Q) ∧ ∀ f, f < 4 → Ieee.double.div (rs (P f) n) (floatOfInt .f64 (n : Int)) = some (Q f) ∧ Ieee.double.order (Q f) (Q f) = some .eq) ∧ Below w.heap.size w w' := by
  have hc := count n h1 (by omega)
  obtain ⟨Q, hQ⟩ := pick (p := fun f x => Ieee.double.div (rs (P f) n) (floatOfInt .f64 (n : Int)) = some x ∧ Ieee.double.order x x = some .eq) fun f hf => good_div (rs_good (n := n) (by omega) (hI f hf) n (Nat.le_refl _)) hc.1 hc.2
  refine (mean_any P g n n (Q 0) (Q 1) (Q 2) (Q 3) w h1 (by omega) hr.four (fun f hf k hk => rs_step (by omega) (hI f hf) k hk) (hQ 0 (by omega)).1 (hQ 1 (by omega)).1 (hQ 2 (by omega)).1 (hQ 3 (by omega)).1).mono ?_
  rintro e w' ⟨rfl, hb⟩
  exact ⟨⟨Q, rfl, hQ⟩, hb⟩

/-! ### The sums that the law compares -/
theorem rs_part (A : Nat → Nat → Nat) (n f : Nat) : rs (part A n f) n = rs (A f) n := rs_congr fun j hj => by simp [part, hj]
theorem rs_with (A : Nat → Nat → Nat) (X : Nat → Nat) (n f : Nat) : rs (with_ (part A n) n X f) n = rs (A f) n := rs_congr fun j hj => by
  have : j ≠ n := by omega
  simp [with_, part, hj, this]

/-- All values are in range. -/
def InRs (A : Nat → Nat → Nat) (n : Nat) : Prop := ∀ f, f < 4 → ∀ j, j < n → InR (A f j)

theorem pad_no (A : Nat → Nat → Nat) (n g : Nat) (w : World) (hn : n ≤ 4096) (hI : InRs A n) (hr : Row 8192 w g (part A n)) :
    Calls Try.prog 6 #[.slice (some ⟨g, 0, none⟩) 8192 8192] w fun e w' => (∃ D : Nat → Nat, e = .returned (Mes D) ∧ ∀ f, f < 4 → Ieee.double.mul (D f) C13 = some (rs (A f) n)) ∧ Below w.heap.size w w' := by
  refine (mean_pad (part A n) g n w (by omega) (fun f hf j hj => by simpa [part, hj] using hI f hf j hj) (fun f hf j hj => by simp [part]; intro h; omega) hr).mono ?_
  rintro e w' ⟨⟨D, rfl, hD⟩, hb⟩
  exact ⟨⟨D, rfl, fun f hf => by rw [← rs_part]; exact hD f hf⟩, hb⟩
theorem pad_yes (A : Nat → Nat → Nat) (X : Nat → Nat) (n g : Nat) (w : World) (hn : n ≤ 4096) (hI : InRs A n) (hX : ∀ f, f < 4 → InR (X f)) (hr : Row 8192 w g (with_ (part A n) n X)) :
    Calls Try.prog 6 #[.slice (some ⟨g, 0, none⟩) 8192 8192] w fun e w' => (∃ D T : Nat → Nat, e = .returned (Mes D) ∧ ∀ f, f < 4 → Ieee.double.mul (D f) C13 = some (T f) ∧ Ieee.double.add (rs (A f) n) (X f) = some (T f) ∧ Ieee.double.order (T f) (T f) = some .eq) ∧ Below w.heap.size w w' := by
  have hall : ∀ f, f < 4 → ∀ j, j < n + 1 → InR (with_ (part A n) n X f j) := fun f hf j hj => by
    by_cases e : j = n
    · simp only [with_, if_pos e]; exact hX f hf
    · simp only [with_, if_neg e, part, if_pos (show j < n by omega)]; exact hI f hf j (by omega)
  refine (mean_pad (with_ (part A n) n X) g (n + 1) w (by omega) hall (fun f hf j hj => ?_) hr).mono ?_
  · simp only [with_, if_neg (show ¬ j = n by omega), part, if_neg (show ¬ j < n by omega)]
  · rintro e w' ⟨⟨D, rfl, hD⟩, hb⟩
    refine ⟨⟨D, fun f => rs (with_ (part A n) n X f) (n + 1), rfl, fun f hf => ⟨hD f hf, ?_, good_self (rs_good (n := n + 1) (by omega) (hall f hf) (n + 1) (Nat.le_refl _))⟩⟩, hb⟩
    have := rs_step (n := n + 1) (by omega) (hall f hf) n (by omega)
    rw [rs_with] at this
    rw [← this]
    simp [with_]
theorem direct_any (A : Nat → Nat → Nat) (n g : Nat) (w : World) (h1 : 1 ≤ n) (hn : n ≤ 4096) (hI : InRs A n) (hr : Row n w g (part A n)) :
    Calls Try.prog 6 #[.slice (some ⟨g, 0, none⟩) n n] w fun e w' => (∃ Q : Nat → Nat, e = .returned (Mes Q) ∧ ∀ f, f < 4 → Ieee.double.div (rs (A f) n) (floatOfInt .f64 (n : Int)) = some (Q f) ∧ Ieee.double.order (Q f) (Q f) = some .eq) ∧ Below w.heap.size w w' := by
  refine (mean_direct (part A n) g n w h1 hn (fun f hf j hj => by simpa [part, hj] using hI f hf j hj) hr).mono ?_
  rintro e w' ⟨⟨D, rfl, hD⟩, hb⟩
  exact ⟨⟨D, rfl, fun f hf => by rw [← rs_part]; exact hD f hf⟩, hb⟩
end Go.Proofs.Qxb6617464a
