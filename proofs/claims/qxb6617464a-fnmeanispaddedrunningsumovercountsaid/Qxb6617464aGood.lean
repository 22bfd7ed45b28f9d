import Derived.Test.Qxb6617464aFloat
namespace Go.Proofs.Qxb6617464a
open Ieee

/-- Exponents kept behind names. -/
def eH : Nat := 1974
def eP : Nat := 1999
def eU : Nat := 1074
theorem eH_eq : eH = 1974 := rfl
theorem eP_eq : eP = 1999 := rfl
theorem one_H : 1 * 2 ^ eH = 2 ^ eH := Nat.one_mul _

/-- A value that the guard lets by. -/
structure InR (x : Nat) : Prop where
  lt : x < 2 ^ 64
  fin : rung x < INF
  dvd : 2 ^ 122 ∣ uval (rung x)
  le : uval (rung x) ≤ 2 ^ eH
/-- A running sum of k such values. -/
structure Good (k : Nat) (x : Nat) : Prop where
  lt : x < 2 ^ 64
  fin : rung x < INF
  dvd : 2 ^ 122 ∣ uval (rung x)
  le : uval (rung x) ≤ k * 2 ^ eH
  nz : x ≠ 2 ^ 63

theorem uval_zero : uval 0 = 0 := by decide
theorem rung_zero : rung 0 = 0 := rfl
theorem good_zero (k : Nat) : Good k 0 := ⟨by decide, by decide, by rw [rung_zero, uval_zero]; exact Nat.dvd_zero _, by rw [rung_zero, uval_zero]; exact Nat.zero_le _, by decide⟩
theorem inr_zero : InR 0 := ⟨by decide, by decide, by rw [rung_zero, uval_zero]; exact Nat.dvd_zero _, by rw [rung_zero, uval_zero]; exact Nat.zero_le _⟩
theorem V_abs (x : Nat) : (V x).natAbs = uval (rung x) := by
  unfold V; split <;> simp
theorem V_zero : V 0 = 0 := by decide

theorem good_add {k S x : Nat} (hS : Good k S) (hx : InR x) (hk : k + 1 < 2 ^ 53) : ∃ R, double.add S x = some R ∧ Good (k + 1) R := by
  refine ⟨_, add_units hS.fin hx.fin, ?_⟩
  have hT : (V S + V x).natAbs ≤ (k + 1) * 2 ^ eH := by
    have h1 := Int.natAbs_add_le (V S) (V x)
    rw [V_abs, V_abs] at h1
    have h2 := hS.le
    have h3 := hx.le
    rw [Nat.add_mul, one_H]
    omega
  have hd : 2 ^ 122 ∣ (V S + V x).natAbs := by
    have a : ((2 ^ 122 : Nat) : Int) ∣ V S := by rw [← Int.dvd_natAbs, V_abs]; exact Int.natCast_dvd_natCast.2 hS.dvd
    have b : ((2 ^ 122 : Nat) : Int) ∣ V x := by rw [← Int.dvd_natAbs, V_abs]; exact Int.natCast_dvd_natCast.2 hx.dvd
    have c := Int.dvd_add a b
    rw [← Int.dvd_natAbs] at c
    exact Int.natCast_dvd_natCast.1 c
  unfold near
  by_cases h0 : V S + V x = 0
  · rw [if_pos h0]
    have hz : (sgn S && sgn x) = false := by
      cases hs : sgn S with
      | false => rfl
      | true =>
        cases hsx : sgn x with
        | false => rfl
        | true =>
          exfalso
          have e1 : V S = -(uval (rung S) : Int) := by unfold V; rw [hs]; rfl
          have e2 : V x = -(uval (rung x) : Int) := by unfold V; rw [hsx]; rfl
          have e3 : uval (rung S) = 0 := by omega
          have e4 : rung S = 0 := by
            rcases Nat.eq_zero_or_pos (rung S) with h | h
            · exact h
            · exact absurd e3 (uval_ne h)
          have e5 := wd_self hS.lt
          rw [hs, e4] at e5
          exact hS.nz e5.symm
    rw [hz]
    exact good_zero _
  · rw [if_neg h0]
    have hN : (V S + V x).natAbs ≠ 0 := by omega
    have hr := rnd_lt hN hT hk (by decide)
    have hp := rnd_pos hN
    generalize (V S + V x).natAbs = N at *
    rw [Nat.min_eq_left (Nat.le_of_lt hr)]
    have hru : rung (wd (decide (V S + V x < 0)) (rnd N)) = rnd N := rung_wd (Nat.le_of_lt hr)
    refine ⟨?_, by rw [hru]; exact hr, by rw [hru, uval_rnd hN]; exact kept_dvd hd, by rw [hru, uval_rnd hN]; exact kept_bd hT hk, ?_⟩
    · have := inf_lt
      unfold wd
      split <;> omega
    · intro h
      rw [h] at hru
      have : rung (2 ^ 63) = 0 := by decide
      omega

theorem zero_or {k S : Nat} (hS : Good k S) : S = 0 ∨ 0 < rung S := by
  rcases Nat.eq_zero_or_pos (rung S) with h | h
  · left
    have e := wd_self hS.lt
    rw [h] at e
    cases hs : sgn S with
    | false => rw [hs] at e; exact e.symm
    | true => rw [hs] at e; exact absurd e.symm hS.nz
  · exact Or.inr h

theorem good_add_zero {k S : Nat} (hS : Good k S) : double.add S 0 = some S := by
  rcases zero_or hS with rfl | hp
  · decide +kernel
  · rw [add_units hS.fin (by decide), V_zero, Int.add_zero]
    have hu := uval_ne hp
    have hne : V S ≠ 0 := by have := V_abs S; omega
    unfold near
    rw [if_neg hne, V_abs, rnd_uval hp, Nat.min_eq_left (Nat.le_of_lt hS.fin)]
    have hs : decide (V S < 0) = sgn S := by
      unfold V
      cases sgn S
      · simp
      · simp; omega
    rw [hs, wd_self hS.lt]

theorem nan_wd {s : Bool} {r : Nat} (h : r ≤ INF) : (double.read (wd s r)).isNaN = false := read_ninf (by rw [rung_wd h]; exact h)
theorem good_self {k S : Nat} (hS : Good k S) : double.order S S = some .eq := order_self (read_ninf (Nat.le_of_lt hS.fin))
theorem nearest_nan (s : Bool) (m : Nat) (p : Int) : (double.read (double.nearest s m p)).isNaN = false := by
  unfold Format.nearest
  split
  · exact nan_wd (Nat.zero_le _)
  · exact nan_wd (Nat.min_le_right _ _)

/-! ### the scale 8192 -/
/-- The word of 8192. -/
def C13 : Nat := 4665729213955833856
theorem read_C13 : double.read C13 = .number false (2 ^ 52) (-39) := by decide +kernel
theorem log52 {q : Nat} (h : q < 2 ^ 52) : (2 ^ 52 + q).log2 = 52 := log2_eq (by omega) (by omega)

theorem good_range {k S : Nat} (hS : Good k S) (hk : k ≤ 4097) (hp : 0 < rung S) : ∃ e q, rung S = e * 2 ^ 52 + q ∧ q < 2 ^ 52 ∧ 71 ≤ e ∧ e ≤ 2000 := by
  have hd : rung S = (rung S / 2 ^ 52) * 2 ^ 52 + rung S % 2 ^ 52 := by omega
  have hq : rung S % 2 ^ 52 < 2 ^ 52 := Nat.mod_lt _ (by omega)
  have hu := uval_ne hp
  have hge : 2 ^ 122 ≤ uval (rung S) := Nat.le_of_dvd (by omega) hS.dvd
  have hle := hS.le
  refine ⟨_, _, hd, hq, ?_, ?_⟩
  · rcases Nat.lt_or_ge (rung S / 2 ^ 52) 71 with h | h
    · exfalso
      have hm : mg (rung S) < 2 ^ 53 := by unfold mg; split <;> omega
      have hlt : uval (rung S) < 2 ^ 53 * 2 ^ (rung S / 2 ^ 52 - 1) := Nat.mul_lt_mul_of_pos_right hm (Nat.two_pow_pos _)
      have h2 : 2 ^ 53 * 2 ^ (rung S / 2 ^ 52 - 1) ≤ 2 ^ 53 * 2 ^ 69 := Nat.mul_le_mul_left _ (Nat.pow_le_pow_right (by omega) (by omega))
      have h3 : 2 ^ 53 * 2 ^ 69 = 2 ^ 122 := by rw [← Nat.pow_add]
      omega
    · exact h
  · rcases Nat.lt_or_ge 2000 (rung S / 2 ^ 52) with h | h
    · exfalso
      have hm : 2 ^ 52 ≤ mg (rung S) := by unfold mg; split <;> omega
      have h1 : 2 ^ 52 * 2 ^ (rung S / 2 ^ 52 - 1) ≤ uval (rung S) := Nat.mul_le_mul_right _ hm
      have h2 : 2 ^ 52 * 2 ^ eP ≤ 2 ^ 52 * 2 ^ (rung S / 2 ^ 52 - 1) := Nat.mul_le_mul_left _ (Nat.pow_le_pow_right (by omega) (by rw [eP_eq]; omega))
      have h3 : k * 2 ^ eH ≤ 4097 * 2 ^ eH := Nat.mul_le_mul_right _ hk
      have h4 : 4097 * 2 ^ eH < 2 ^ 52 * 2 ^ eP := by
        have a : 4097 * 2 ^ eH < 2 ^ 52 * 2 ^ eH := Nat.mul_lt_mul_of_pos_right (by decide) (Nat.two_pow_pos _)
        have b : 2 ^ 52 * 2 ^ eH ≤ 2 ^ 52 * 2 ^ eP := Nat.mul_le_mul_left _ (Nat.pow_le_pow_right (by omega) (by decide))
        exact Nat.lt_of_lt_of_le a b
      exact absurd (Nat.le_trans h2 (Nat.le_trans h1 (Nat.le_trans hle h3))) (Nat.not_le_of_gt h4)
    · exact h

theorem read_parts {s : Bool} {e q : Nat} (he0 : 1 ≤ e) (he : e ≤ 2040) (hq : q < 2 ^ 52) : double.read (wd s (e * 2 ^ 52 + q)) = .number s (2 ^ 52 + q) (-1074 + ((e - 1 : Nat) : Int)) := by
  have hlt : e * 2 ^ 52 + q < INF := by unfold INF; omega
  have hr : rung (wd s (e * 2 ^ 52 + q)) = e * 2 ^ 52 + q := rung_wd (Nat.le_of_lt hlt)
  rw [read_fin (by rw [hr]; exact hlt), hr, sgn_wd (Nat.le_of_lt hlt)]
  have h1 : (e * 2 ^ 52 + q) / 2 ^ 52 = e := by omega
  have h2 : (e * 2 ^ 52 + q) % 2 ^ 52 = q := by omega
  have h3 : ¬ e * 2 ^ 52 + q < 2 ^ 52 := by omega
  unfold mg pa
  rw [if_neg h3, h1, h2]

theorem nearest_parts (s : Bool) {m t e q : Nat} (hm : m ≠ 0) (he0 : 1 ≤ e) (he : e ≤ 2040) (hq : q < 2 ^ 52) (h : m * 2 ^ t = (2 ^ 52 + q) * 2 ^ (e - 1)) : double.nearest s m (-1074 + (t : Int)) = wd s (e * 2 ^ 52 + q) := by
  rw [nearest_units s m t hm, h, ← uval_high (by omega) hq, rnd_uval (by omega), Nat.min_eq_left (by unfold INF; omega)]

theorem good_scale {k S : Nat} (hS : Good k S) (hk : k ≤ 4097) : ∃ D, double.div S C13 = some D ∧ double.mul D C13 = some S := by
  rcases zero_or hS with rfl | hp
  · exact ⟨0, by decide +kernel, by decide +kernel⟩
  · obtain ⟨e, q, hr, hq, he1, he2⟩ := good_range hS hk hp
    have hw := wd_self hS.lt
    rw [hr] at hw
    refine ⟨wd (sgn S) ((e - 13) * 2 ^ 52 + q), ?_, ?_⟩
    · unfold Format.div
      rw [← hw, read_parts (by omega) (by omega) hq, read_C13, hw, d_frac]
      have hl1 : (2 ^ 52 : Nat).log2 = 52 := by decide
      simp only [Datum.quotient, hl1, log52 hq]
      rw [if_neg (by decide)]
      simp only [Option.map_some, Option.some.injEq]
      have hm0 : 52 + 2 + 52 - 52 = 54 := rfl
      rw [hm0, shl]
      have h1 : (2 ^ 52 + q) * 2 ^ 54 = (2 ^ 52 + q) * 4 * 2 ^ 52 := by omega
      have h2 : (2 ^ 52 + q) * 2 ^ 54 / 2 ^ 52 = (2 ^ 52 + q) * 4 := by rw [h1]; exact Nat.mul_div_cancel _ (by decide)
      have h3 : (2 ^ 52 + q) * 2 ^ 54 % 2 ^ 52 = 0 := by rw [h1]; exact Nat.mul_mod_left _ _
      rw [h2, h3]
      have h4 : (-1074 + ((e - 1 : Nat) : Int) - -39 - ((54 : Nat) : Int) - 1) = -1074 + ((e - 17 : Nat) : Int) := by omega
      show double.nearest _ _ _ = _
      rw [h4]
      have hs : (sgn S ^^ false) = sgn S := by cases sgn S <;> rfl
      rw [hs]
      have hb : ((0 : Nat) != 0).toNat = 0 := rfl
      rw [hb, Nat.add_zero]
      refine nearest_parts (sgn S) (by omega) (by omega) (by omega) hq ?_
      have h5 : e - 13 - 1 = 3 + (e - 17) := by omega
      have h6 : 2 * ((2 ^ 52 + q) * 4) = (2 ^ 52 + q) * 2 ^ 3 := by omega
      rw [h6, h5, Nat.pow_add, Nat.mul_assoc]
    · unfold Format.mul
      rw [read_parts (by omega) (by omega) hq, read_C13]
      simp only [Datum.product, Option.map_some, Option.some.injEq]
      have h4 : (-1074 + ((e - 13 - 1 : Nat) : Int) + -39) = -1074 + ((e - 53 : Nat) : Int) := by omega
      show double.nearest _ _ _ = _
      rw [h4]
      have hs : (sgn S ^^ false) = sgn S := by cases sgn S <;> rfl
      rw [hs, nearest_parts (sgn S) (e := e) (q := q) (by have : 0 < (2 ^ 52 + q) * 2 ^ 52 := Nat.mul_pos (by omega) (by omega); omega) (by omega) (by omega) hq ?_, hw]
      have h5 : e - 1 = 52 + (e - 53) := by omega
      rw [h5, Nat.pow_add, ← Nat.mul_assoc]

/-! ### a division by a count -/
theorem good_div {k S F : Nat} (hS : Good k S) (hF : rung F < INF) (hp : 0 < rung F) : ∃ Q, double.div S F = some Q ∧ double.order Q Q = some .eq := by
  unfold Format.div
  rw [read_fin hS.fin, read_fin hF]
  have hm : mg (rung F) ≠ 0 := by unfold mg; split <;> omega
  simp only [Datum.quotient]
  rw [if_neg hm]
  exact ⟨_, rfl, order_self (nearest_nan _ _ _)⟩
theorem count_fin {n : Nat} (h1 : 1 ≤ n) (h2 : n ≤ 8192) : rung (double.nearest false n 0) < INF ∧ 0 < rung (double.nearest false n 0) := by
  have e : (0 : Int) = -1074 + ((eU : Nat) : Int) := by decide
  rw [e, nearest_units false n eU (by omega)]
  have hN : n * 2 ^ eU ≠ 0 := by
    have : 0 < n * 2 ^ eU := Nat.mul_pos (by omega) (Nat.two_pow_pos _)
    omega
  have hr := rnd_lt hN (Nat.le_refl _) (by omega : n < 2 ^ 53) (by decide)
  have hp := rnd_pos hN
  rw [Nat.min_eq_left (Nat.le_of_lt hr), rung_wd (Nat.le_of_lt hr)]
  exact ⟨hr, hp⟩

/-! ### the guard -/
def LO : Nat := 553942754166571008
def HI : Nat := 8660422083433463808
theorem V_LO : V LO = ((2 ^ 174 : Nat) : Int) := by decide +kernel
theorem V_HI : V HI = ((2 ^ eH : Nat) : Int) := by decide +kernel
theorem fin_of_order {x y : Nat} (hy : rung y < INF) (h : double.order x y ≠ none) : rung x ≤ INF := by
  rcases Nat.lt_or_ge INF (rung x) with hx | hx
  · exfalso
    apply h
    unfold Format.order
    have : double.read x = .nan (sgn x) (rung x - INF) := by
      unfold Format.read
      rw [d_sw, d_bin, d_inf, d_least]
      show (if rung x < 2 ^ 52 then Datum.number (sgn x) (rung x) (-1074) else if rung x < INF then Datum.number (sgn x) (2 ^ 52 + rung x % 2 ^ 52) (-1074 + ((rung x / 2 ^ 52 - 1 : Nat) : Int)) else if rung x = INF then .infinity (sgn x) else .nan (sgn x) (rung x - INF)) = _
      have h52 : ¬ rung x < 2 ^ 52 := by have : (2 : Nat) ^ 52 < INF := by decide
                                         omega
      rw [if_neg h52, if_neg (by omega), if_neg (by omega)]
    rw [this]
    rfl
  · exact hx
theorem read_inf {x : Nat} (h : rung x = INF) : double.read x = .infinity (sgn x) := by
  unfold Format.read
  rw [d_sw, d_bin, d_inf, d_least]
  show (if rung x < 2 ^ 52 then Datum.number (sgn x) (rung x) (-1074) else if rung x < INF then Datum.number (sgn x) (2 ^ 52 + rung x % 2 ^ 52) (-1074 + ((rung x / 2 ^ 52 - 1 : Nat) : Int)) else if rung x = INF then .infinity (sgn x) else .nan (sgn x) (rung x - INF)) = _
  rw [if_neg (by rw [h]; decide), if_neg (by omega), if_pos h]

theorem inr_zero_of {v : Nat} (hv : v < 2 ^ 64) (h : (double.order v 0 == some .eq) = true) : InR v := by
  have h' : double.order v 0 = some .eq := by simpa using h
  have hle := fin_of_order (y := 0) (by decide) (by rw [h']; simp : double.order v 0 ≠ none)
  have hfin : rung v < INF := by
    rcases Nat.lt_or_ge (rung v) INF with g | g
    · exact g
    · exfalso
      have hi := read_inf (x := v) (by omega)
      unfold Format.order at h'
      rw [hi, read_fin (x := 0) (by decide)] at h'
      simp only [Datum.order] at h'
      cases hs : sgn v <;> rw [hs] at h' <;> simp at h'
  rw [order_units hfin (by decide), V_zero] at h'
  have hz : V v = 0 := by
    have := Option.some.inj h'
    exact Int.compare_eq_eq.1 this
  have hu : uval (rung v) = 0 := by rw [← V_abs, hz]; rfl
  exact ⟨hv, hfin, by rw [hu]; exact Nat.dvd_zero _, by rw [hu]; exact Nat.zero_le _⟩

theorem inr_of {v v' : Nat} (hv : v < 2 ^ 64) (hr : rung v' = rung v) (h1 : (double.order v' LO == some .gt || double.order v' LO == some .eq) = true) (h2 : (double.order v' HI == some .lt || double.order v' HI == some .eq) = true) : InR v := by
  have hn : double.order v' LO ≠ none := by intro h; rw [h] at h1; simp at h1
  have hle := fin_of_order (y := LO) (by decide) hn
  have hfin : rung v' < INF := by
    rcases Nat.lt_or_ge (rung v') INF with g | g
    · exact g
    · exfalso
      have hi := read_inf (x := v') (by omega)
      unfold Format.order at h1 h2
      rw [hi, read_fin (x := LO) (by decide)] at h1
      rw [hi, read_fin (x := HI) (by decide)] at h2
      simp only [Datum.order] at h1 h2
      cases hs : sgn v' <;> rw [hs] at h1 h2 <;> simp at h1 h2
  rw [order_units hfin (by decide), V_LO] at h1
  rw [order_units hfin (by decide), V_HI] at h2
  have g1 : ((2 ^ 174 : Nat) : Int) ≤ V v' := by
    simp only [Bool.or_eq_true, beq_iff_eq, Option.some.injEq, Int.compare_eq_gt, Int.compare_eq_eq] at h1
    omega
  have g2 : V v' ≤ ((2 ^ eH : Nat) : Int) := by
    simp only [Bool.or_eq_true, beq_iff_eq, Option.some.injEq, Int.compare_eq_lt, Int.compare_eq_eq] at h2
    rcases h2 with h2 | h2
    · exact Int.le_of_lt h2
    · exact Int.le_of_eq h2
  have hpos : (0 : Int) < ((2 ^ 174 : Nat) : Int) := by decide
  have hV : V v' = (uval (rung v') : Int) := by
    have : V v' = ((V v').natAbs : Int) := by omega
    rw [this, V_abs]
  rw [hV, hr] at g1 g2
  have u1 : 2 ^ 174 ≤ uval (rung v) := Int.ofNat_le.1 g1
  have u2 : uval (rung v) ≤ 2 ^ eH := Int.ofNat_le.1 g2
  refine ⟨hv, by rw [← hr]; exact hfin, ?_, u2⟩
  have hm : mg (rung v) < 2 ^ 53 := by
    have : rung v < INF := by rw [← hr]; exact hfin
    unfold mg; split <;> omega
  have hpa : 122 ≤ rung v / 2 ^ 52 - 1 := by
    rcases Nat.lt_or_ge (rung v / 2 ^ 52 - 1) 122 with g | g
    · exfalso
      have a : uval (rung v) < 2 ^ 53 * 2 ^ (rung v / 2 ^ 52 - 1) := Nat.mul_lt_mul_of_pos_right hm (Nat.two_pow_pos _)
      have b : 2 ^ 53 * 2 ^ (rung v / 2 ^ 52 - 1) ≤ 2 ^ 53 * 2 ^ 121 := Nat.mul_le_mul_left _ (Nat.pow_le_pow_right (by omega) (by omega))
      have c : 2 ^ 53 * 2 ^ 121 = 2 ^ 174 := by rw [← Nat.pow_add]
      omega
    · exact g
  exact Nat.dvd_trans (Nat.pow_dvd_pow 2 hpa) (Nat.dvd_mul_left _ _)
end Go.Proofs.Qxb6617464a
