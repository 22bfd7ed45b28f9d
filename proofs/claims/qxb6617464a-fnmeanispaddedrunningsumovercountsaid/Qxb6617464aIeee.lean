import Ieee.Arith
namespace Go.Proofs.Qxb6617464a
open Ieee

/-! ### the numbers of a double, by rungs; values in units of the least place -/
/-- The significand of a rung. -/
def mg (r : Nat) : Nat := if r < 2 ^ 52 then r else 2 ^ 52 + r % 2 ^ 52
/-- The value of a rung, in units of '2 ^ -1074'. -/
def uval (r : Nat) : Nat := mg r * 2 ^ (r / 2 ^ 52 - 1)
def sgn (x : Nat) : Bool := x / 2 ^ 63 % 2 == 1
def rung (x : Nat) : Nat := x % 2 ^ 63
def INF : Nat := 2047 * 2 ^ 52
/-- The last digit that is kept, and what is kept, of a value in units. -/
def lst (N : Nat) : Nat := N.log2 - 52
def up (N : Nat) : Bool := 2 ^ lst N < 2 * (N % 2 ^ lst N) || (2 ^ lst N == 2 * (N % 2 ^ lst N) && N / 2 ^ lst N % 2 == 1)
def kept (N : Nat) : Nat := N / 2 ^ lst N + (up N).toNat
/-- The nearest rung. -/
def rnd (N : Nat) : Nat := lst N * 2 ^ 52 + kept N

theorem log2_eq {N t : Nat} (h1 : 2 ^ t ≤ N) (h2 : N < 2 ^ (t + 1)) : N.log2 = t := by
  have hp : 0 < 2 ^ t := Nat.two_pow_pos t
  have hN : N ≠ 0 := by omega
  have a := (Nat.le_log2 hN).2 h1
  have b := (Nat.log2_lt hN).2 h2
  omega
theorem log2_lo {N : Nat} (h : N ≠ 0) : 2 ^ N.log2 ≤ N := (Nat.le_log2 h).1 (Nat.le_refl _)
theorem log2_hi {N : Nat} (h : N ≠ 0) : N < 2 ^ (N.log2 + 1) := (Nat.log2_lt h).1 (by omega)
theorem log2_mul (m t : Nat) (h : m ≠ 0) : (m * 2 ^ t).log2 = m.log2 + t := by
  refine log2_eq ?_ ?_
  · rw [Nat.pow_add]; exact Nat.mul_le_mul_right _ (log2_lo h)
  · rw [show m.log2 + t + 1 = (m.log2 + 1) + t by omega, Nat.pow_add]
    exact Nat.mul_lt_mul_of_pos_right (log2_hi h) (Nat.two_pow_pos t)

/-! ### rounding -/
theorem kept_le {N M : Nat} (h : N ≤ M * 2 ^ lst N) : kept N ≤ M := by
  unfold kept
  have hp : 0 < 2 ^ lst N := Nat.two_pow_pos _
  have hd := Nat.div_add_mod N (2 ^ lst N)
  have hm := Nat.mod_lt N hp
  by_cases hq : N / 2 ^ lst N < M
  · have : (up N).toNat ≤ 1 := Bool.toNat_le _
    omega
  · have hge : M ≤ N / 2 ^ lst N := by omega
    have h1 : 2 ^ lst N * M ≤ 2 ^ lst N * (N / 2 ^ lst N) := Nat.mul_le_mul_left _ hge
    have h2 : M * 2 ^ lst N = 2 ^ lst N * M := Nat.mul_comm _ _
    have hr : N % 2 ^ lst N = 0 := by omega
    have hu : up N = false := by
      unfold up
      rw [hr]
      simp
    rw [hu]
    have h3 : 2 ^ lst N * (N / 2 ^ lst N) ≤ 2 ^ lst N * M := by omega
    have := Nat.le_of_mul_le_mul_left h3 hp
    simpa using this
theorem kept_exact {N : Nat} (h : 2 ^ lst N ∣ N) : kept N * 2 ^ lst N = N := by
  have hr : N % 2 ^ lst N = 0 := Nat.mod_eq_zero_of_dvd h
  have hu : up N = false := by unfold up; rw [hr]; simp
  unfold kept
  rw [hu]
  simp only [Bool.toNat_false, Nat.add_zero]
  exact Nat.div_mul_cancel h
theorem kept_dvd {N u : Nat} (h : 2 ^ u ∣ N) : 2 ^ u ∣ kept N * 2 ^ lst N := by
  by_cases hu : u ≤ lst N
  · exact Nat.dvd_trans (Nat.pow_dvd_pow 2 hu) (Nat.dvd_mul_left _ _)
  · rw [kept_exact (Nat.dvd_trans (Nat.pow_dvd_pow 2 (by omega)) h)]
    exact h
theorem lst_bd {N K j : Nat} (h : N ≤ K * 2 ^ j) (hK : K < 2 ^ 53) : lst N ≤ j := by
  unfold lst
  by_cases h0 : N = 0
  · subst h0; simp
  · have h1 := log2_lo h0
    have h2 : K * 2 ^ j < 2 ^ 53 * 2 ^ j := Nat.mul_lt_mul_of_pos_right hK (Nat.two_pow_pos j)
    rw [← Nat.pow_add] at h2
    have h3 : 2 ^ N.log2 < 2 ^ (53 + j) := by omega
    have := (Nat.pow_lt_pow_iff_right (by omega : 1 < 2)).1 h3
    omega
theorem kept_bd {N K j : Nat} (h : N ≤ K * 2 ^ j) (hK : K < 2 ^ 53) : kept N * 2 ^ lst N ≤ K * 2 ^ j := by
  have hl := lst_bd h hK
  have e : K * 2 ^ j = (K * 2 ^ (j - lst N)) * 2 ^ lst N := by rw [Nat.mul_assoc, ← Nat.pow_add]; congr 2; omega
  rw [e] at h ⊢
  exact Nat.mul_le_mul_right _ (kept_le h)
theorem kept_53 {N : Nat} (h0 : N ≠ 0) : kept N ≤ 2 ^ 53 := by
  refine kept_le ?_
  rw [← Nat.pow_add]
  have := log2_hi h0
  refine Nat.le_of_lt (Nat.lt_of_lt_of_le this (Nat.pow_le_pow_right (by omega) ?_))
  unfold lst; omega
theorem kept_52 {N : Nat} (h0 : N ≠ 0) (hl : 0 < lst N) : 2 ^ 52 ≤ kept N := by
  unfold kept
  have h1 := log2_lo h0
  have hl' : N.log2 = 52 + lst N := by unfold lst at hl ⊢; omega
  rw [hl', Nat.pow_add] at h1
  have := (Nat.le_div_iff_mul_le (Nat.two_pow_pos (lst N))).2 h1
  omega
theorem kept_small {N : Nat} (hl : lst N = 0) : kept N = N := by
  have := kept_exact (N := N) (by rw [hl]; simp)
  rw [hl] at this
  simpa using this

theorem uval_low {r : Nat} (h : r < 2 ^ 53) : uval r = r := by
  unfold uval mg
  by_cases hr : r < 2 ^ 52
  · rw [if_pos hr]
    have : r / 2 ^ 52 = 0 := Nat.div_eq_of_lt hr
    rw [this]; simp
  · rw [if_neg hr]
    have h1 : r / 2 ^ 52 = 1 := by omega
    have h2 : r % 2 ^ 52 = r - 2 ^ 52 := by omega
    rw [h1, h2]
    simp; omega
theorem uval_high {e q : Nat} (he : 0 < e) (hq : q < 2 ^ 52) : uval (e * 2 ^ 52 + q) = (2 ^ 52 + q) * 2 ^ (e - 1) := by
  unfold uval mg
  have h1 : (e * 2 ^ 52 + q) / 2 ^ 52 = e := by omega
  have h2 : (e * 2 ^ 52 + q) % 2 ^ 52 = q := by omega
  have h3 : ¬ e * 2 ^ 52 + q < 2 ^ 52 := by omega
  rw [if_neg h3, h1, h2]

theorem uval_rnd {N : Nat} (h0 : N ≠ 0) : uval (rnd N) = kept N * 2 ^ lst N := by
  unfold rnd
  have hk := kept_53 h0
  by_cases hl : lst N = 0
  · rw [hl, kept_small hl]
    have h53 : N < 2 ^ 53 := by
      have := log2_hi h0
      refine Nat.lt_of_lt_of_le this (Nat.pow_le_pow_right (by omega) ?_)
      unfold lst at hl; omega
    rw [Nat.zero_mul, Nat.zero_add, uval_low h53]; simp
  · have h52 := kept_52 h0 (by omega)
    by_cases he : kept N = 2 ^ 53
    · rw [he]
      have e : lst N * 2 ^ 52 + 2 ^ 53 = (lst N + 2) * 2 ^ 52 + 0 := by omega
      rw [e, uval_high (by omega) (by omega), Nat.add_zero]
      have e2 : lst N + 2 - 1 = 1 + lst N := by omega
      rw [e2, Nat.pow_add, ← Nat.mul_assoc]
    · have e : lst N * 2 ^ 52 + kept N = (lst N + 1) * 2 ^ 52 + (kept N - 2 ^ 52) := by omega
      rw [e, uval_high (by omega) (by omega)]
      have e2 : lst N + 1 - 1 = lst N := by omega
      have e3 : 2 ^ 52 + (kept N - 2 ^ 52) = kept N := by omega
      rw [e2, e3]
theorem rnd_lt {N K j : Nat} (h0 : N ≠ 0) (h : N ≤ K * 2 ^ j) (hK : K < 2 ^ 53) (hj : j ≤ 2040) : rnd N < INF := by
  have hl := lst_bd h hK
  have hk := kept_53 h0
  unfold rnd INF
  omega
theorem rnd_pos {N : Nat} (h0 : N ≠ 0) : 0 < rnd N := by
  unfold rnd
  by_cases hl : lst N = 0
  · rw [kept_small hl]; omega
  · have h52 := kept_52 h0 (by omega)
    omega

theorem uval_ne {r : Nat} (h : 0 < r) : uval r ≠ 0 := by
  unfold uval
  have hm : 0 < mg r := by unfold mg; split <;> omega
  have := Nat.mul_pos hm (Nat.two_pow_pos (r / 2 ^ 52 - 1))
  omega
theorem rnd_uval {r : Nat} (h : 0 < r) : rnd (uval r) = r := by
  by_cases hr : r < 2 ^ 53
  · rw [uval_low hr]
    have hl : lst r = 0 := by
      unfold lst
      have := (Nat.log2_lt (by omega : r ≠ 0)).2 hr
      omega
    unfold rnd
    rw [kept_small hl, hl]; omega
  · have he : 2 ≤ r / 2 ^ 52 := by omega
    have hd : r = (r / 2 ^ 52) * 2 ^ 52 + r % 2 ^ 52 := by omega
    have hq : r % 2 ^ 52 < 2 ^ 52 := Nat.mod_lt _ (by omega)
    generalize r / 2 ^ 52 = e at he hd
    generalize r % 2 ^ 52 = q at hd hq
    subst hd
    rw [uval_high (by omega) hq]
    have hlog : ((2 ^ 52 + q) * 2 ^ (e - 1)).log2 = 52 + (e - 1) := by
      rw [log2_mul _ _ (by omega), log2_eq (t := 52) (by omega) (by omega)]
    have hl : lst ((2 ^ 52 + q) * 2 ^ (e - 1)) = e - 1 := by unfold lst; rw [hlog]; omega
    have hk := kept_exact (N := (2 ^ 52 + q) * 2 ^ (e - 1)) (by rw [hl]; exact Nat.dvd_mul_left _ _)
    rw [hl] at hk
    have hk2 := Nat.eq_of_mul_eq_mul_right (Nat.two_pow_pos (e - 1)) hk
    unfold rnd
    rw [hl, hk2]
    omega
end Go.Proofs.Qxb6617464a
