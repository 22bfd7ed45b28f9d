import Derived.Test.Qxb6617464aIeee
namespace Go.Proofs.Qxb6617464a
open Ieee

theorem d_sw : double.signWeight = 2 ^ 63 := rfl
theorem d_bin : double.binade = 2 ^ 52 := rfl
theorem d_inf : double.infRung = INF := rfl
theorem d_least : double.leastPlace = -1074 := by decide
theorem d_frac : double.fractionBits = 52 := rfl

/-- The place of a rung, above the least. -/
def pa (r : Nat) : Nat := r / 2 ^ 52 - 1
theorem read_fin {x : Nat} (h : rung x < INF) : double.read x = .number (sgn x) (mg (rung x)) (-1074 + (pa (rung x) : Int)) := by
  unfold Format.read
  rw [d_sw, d_bin, d_inf, d_least]
  show (if rung x < 2 ^ 52 then Datum.number (sgn x) (rung x) (-1074) else if rung x < INF then Datum.number (sgn x) (2 ^ 52 + rung x % 2 ^ 52) (-1074 + ((rung x / 2 ^ 52 - 1 : Nat) : Int)) else if rung x = INF then .infinity (sgn x) else .nan (sgn x) (rung x - INF)) = _
  by_cases h1 : rung x < 2 ^ 52
  · rw [if_pos h1]
    have e : pa (rung x) = 0 := by unfold pa; omega
    have e2 : mg (rung x) = rung x := by unfold mg; rw [if_pos h1]
    rw [e, e2]; rfl
  · rw [if_neg h1, if_pos h]
    have e2 : mg (rung x) = 2 ^ 52 + rung x % 2 ^ 52 := by unfold mg; rw [if_neg h1]
    rw [e2]; rfl
theorem read_ninf {x : Nat} (h : rung x ≤ INF) : (double.read x).isNaN = false := by
  by_cases h1 : rung x < INF
  · rw [read_fin h1]; rfl
  · unfold Format.read
    rw [d_sw, d_bin, d_inf, d_least]
    have e : rung x = INF := by omega
    show (if rung x < 2 ^ 52 then Datum.number (sgn x) (rung x) (-1074) else if rung x < INF then Datum.number (sgn x) (2 ^ 52 + rung x % 2 ^ 52) (-1074 + ((rung x / 2 ^ 52 - 1 : Nat) : Int)) else if rung x = INF then .infinity (sgn x) else .nan (sgn x) (rung x - INF)).isNaN = false
    rw [if_neg (by rw [e]; decide), if_neg h1, if_pos e]; rfl

/-- The word of a sign and a rung. -/
def wd (s : Bool) (r : Nat) : Nat := if s then 2 ^ 63 + r else r
theorem d_word (s : Bool) (r : Nat) : double.word s r = wd s r := rfl
theorem inf_lt : INF < 2 ^ 63 := by decide
theorem rung_wd {s : Bool} {r : Nat} (h : r ≤ INF) : rung (wd s r) = r := by
  have := inf_lt
  unfold rung wd
  cases s <;> simp <;> omega
theorem sgn_wd {s : Bool} {r : Nat} (h : r ≤ INF) : sgn (wd s r) = s := by
  have := inf_lt
  unfold sgn wd
  cases s
  · have : r / 2 ^ 63 = 0 := Nat.div_eq_of_lt (by omega)
    simp [this]
  · have : (2 ^ 63 + r) / 2 ^ 63 = 1 := by omega
    simp [this]
theorem wd_self {x : Nat} (h : x < 2 ^ 64) : wd (sgn x) (rung x) = x := by
  unfold wd sgn rung
  by_cases hx : x < 2 ^ 63
  · have h1 : x / 2 ^ 63 = 0 := Nat.div_eq_of_lt hx
    have h2 : x % 2 ^ 63 = x := Nat.mod_eq_of_lt hx
    rw [h1, h2]; rfl
  · have h1 : x / 2 ^ 63 = 1 := by omega
    rw [h1]
    simp; omega

theorem shl (a b : Nat) : a <<< b = a * 2 ^ b := Nat.shiftLeft_eq a b

/-- The nearest word, by the value in units. -/
theorem nearest_units (s : Bool) (m t : Nat) (hm : m ≠ 0) : double.nearest s m (-1074 + (t : Int)) = wd s (min (rnd (m * 2 ^ t)) INF) := by
  have hlog := log2_mul m t hm
  have hls : lst (m * 2 ^ t) = m.log2 + t - 52 := by unfold lst; rw [hlog]
  unfold Format.nearest
  rw [if_neg hm]
  simp only [d_word, d_frac, d_least, d_bin, d_inf]
  have hlast : max (-1074 + (t : Int) + (m.log2 : Int) - 52) (-1074) = -1074 + ((lst (m * 2 ^ t) : Nat) : Int) := by rw [hls]; omega
  have hlast' : max (-1074 + (t : Int) + (m.log2 : Int) - ((52 : Nat) : Int)) (-1074) = -1074 + ((lst (m * 2 ^ t) : Nat) : Int) := hlast
  rw [hlast']
  have e1 : (-1074 + ((lst (m * 2 ^ t) : Nat) : Int) - -1074).toNat = lst (m * 2 ^ t) := by omega
  have e2 : (-1074 + (t : Int) - (-1074 + ((lst (m * 2 ^ t) : Nat) : Int))).toNat = t - lst (m * 2 ^ t) := by omega
  have e3 : (-1074 + ((lst (m * 2 ^ t) : Nat) : Int) - (-1074 + (t : Int))).toNat = lst (m * 2 ^ t) - t := by omega
  rw [e1, e2, e3]
  have hcut : Toward.even.cut s (m <<< (t - lst (m * 2 ^ t))) (lst (m * 2 ^ t) - t) = kept (m * 2 ^ t) := by
    by_cases hA : lst (m * 2 ^ t) ≤ t
    · have d0 : lst (m * 2 ^ t) - t = 0 := by omega
      have hN : m * 2 ^ t = m * 2 ^ (t - lst (m * 2 ^ t)) * 2 ^ lst (m * 2 ^ t) := by
        rw [Nat.mul_assoc, ← Nat.pow_add]; congr 2; omega
      have hk := kept_exact (N := m * 2 ^ t) (by rw [hN]; exact ⟨m * 2 ^ (t - lst (m * 2 ^ t)), by
        have : lst (m * 2 ^ (t - lst (m * 2 ^ t)) * 2 ^ lst (m * 2 ^ t)) = lst (m * 2 ^ t) := by rw [← hN]
        rw [this]; exact Nat.mul_comm _ _⟩)
      have hk2 : kept (m * 2 ^ t) = m * 2 ^ (t - lst (m * 2 ^ t)) := by
        refine Nat.eq_of_mul_eq_mul_right (Nat.two_pow_pos (lst (m * 2 ^ t))) ?_
        rw [hk]; exact hN
      rw [d0, hk2, shl]
      unfold Toward.cut
      simp [Nat.mod_one]
    · have d1 : t - lst (m * 2 ^ t) = 0 := by omega
      rw [d1]
      generalize hd : lst (m * 2 ^ t) - t = d at *
      have hl : lst (m * 2 ^ t) = d + t := by omega
      have hmin : min d (m.log2 + 2) = d := by omega
      have hq : m * 2 ^ t / 2 ^ lst (m * 2 ^ t) = m / 2 ^ d := by
        rw [hl, Nat.pow_add, Nat.mul_div_mul_right _ _ (Nat.two_pow_pos t)]
      have hr : m * 2 ^ t % 2 ^ lst (m * 2 ^ t) = m % 2 ^ d * 2 ^ t := by
        rw [hl, Nat.pow_add, Nat.mul_mod_mul_right]
      have hp : 0 < 2 ^ t := Nat.two_pow_pos t
      have hu : up (m * 2 ^ t) = (decide (2 ^ d < 2 * (m % 2 ^ d)) || (2 ^ d == 2 * (m % 2 ^ d) && m / 2 ^ d % 2 == 1)) := by
        unfold up
        rw [hq, hr, hl, Nat.pow_add]
        have a1 : decide (2 ^ d * 2 ^ t < 2 * (m % 2 ^ d * 2 ^ t)) = decide (2 ^ d < 2 * (m % 2 ^ d)) := by
          rw [← Nat.mul_assoc]
          exact decide_eq_decide.2 (Nat.mul_lt_mul_right hp)
        have a2 : (2 ^ d * 2 ^ t == 2 * (m % 2 ^ d * 2 ^ t)) = (2 ^ d == 2 * (m % 2 ^ d)) := by
          rw [← Nat.mul_assoc, Bool.eq_iff_iff, beq_iff_eq, beq_iff_eq]
          exact ⟨fun h => Nat.eq_of_mul_eq_mul_right hp h, fun h => congrArg (· * 2 ^ t) h⟩
        rw [a1, a2]
      unfold kept
      rw [hq, hu]
      unfold Toward.cut
      simp only [shl, Nat.pow_zero, Nat.mul_one, Nat.one_mul, hmin]
  rw [hcut]
  rfl

/-! ### sums -/
/-- The value of a word, in units. -/
def V (x : Nat) : Int := if sgn x then -(uval (rung x) : Int) else (uval (rung x) : Int)
/-- The word nearest to a value in units; 'z': the sign of nought. -/
def near (z : Bool) (T : Int) : Nat := if T = 0 then wd z 0 else wd (decide (T < 0)) (min (rnd T.natAbs) INF)

theorem signed_V (s : Bool) (m a k : Nat) (h : k ≤ a) : signed s m (a - k) * (2 : Int) ^ k = if s then -((m * 2 ^ a : Nat) : Int) else ((m * 2 ^ a : Nat) : Int) := by
  have e : m * 2 ^ a = m * 2 ^ (a - k) * 2 ^ k := by rw [Nat.mul_assoc, ← Nat.pow_add]; congr 2; omega
  unfold signed
  rw [shl, e]
  cases s
  · simp
  · simp [Int.neg_mul]
theorem V_eq (x : Nat) : V x = if sgn x then -((mg (rung x) * 2 ^ pa (rung x) : Nat) : Int) else ((mg (rung x) * 2 ^ pa (rung x) : Nat) : Int) := rfl

theorem add_units {x y : Nat} (hx : rung x < INF) (hy : rung y < INF) : double.add x y = some (near (sgn x && sgn y) (V x + V y)) := by
  unfold Format.add
  rw [read_fin hx, read_fin hy]
  simp only [Datum.sum]
  generalize hk : min (pa (rung x)) (pa (rung y)) = k
  have hb : min (-1074 + (pa (rung x) : Int)) (-1074 + (pa (rung y) : Int)) = -1074 + (k : Int) := by omega
  rw [hb]
  have e1 : (-1074 + (pa (rung x) : Int) - (-1074 + (k : Int))).toNat = pa (rung x) - k := by omega
  have e2 : (-1074 + (pa (rung y) : Int) - (-1074 + (k : Int))).toNat = pa (rung y) - k := by omega
  rw [e1, e2]
  have hV : V x + V y = (signed (sgn x) (mg (rung x)) (pa (rung x) - k) + signed (sgn y) (mg (rung y)) (pa (rung y) - k)) * (2 : Int) ^ k := by
    rw [Int.add_mul, signed_V _ _ _ _ (by omega), signed_V _ _ _ _ (by omega), V_eq, V_eq]
  generalize signed (sgn x) (mg (rung x)) (pa (rung x) - k) + signed (sgn y) (mg (rung y)) (pa (rung y) - k) = t at *
  have hp : (0 : Int) < 2 ^ k := Int.pow_pos (by omega)
  simp only [Option.map_some, Option.some.injEq]
  unfold near
  by_cases ht : t = 0
  · subst ht
    rw [hV, Int.zero_mul, if_pos rfl, if_pos rfl]
    show double.write (.number _ 0 _) = _
    simp [Format.write, Format.nearest, d_word]
  · have hne : V x + V y ≠ 0 := by rw [hV]; exact Int.mul_ne_zero ht (by omega)
    rw [if_neg hne, if_neg ht]
    show double.nearest _ _ _ = _
    rw [nearest_units _ _ _ (by omega)]
    have h1 : t.natAbs * 2 ^ k = (V x + V y).natAbs := by
      rw [hV, Int.natAbs_mul, Int.natAbs_pow]; rfl
    have h2 : decide (t < 0) = decide (V x + V y < 0) := by
      rw [hV]
      refine decide_eq_decide.2 ⟨fun h => Int.mul_neg_of_neg_of_pos h hp, fun h => ?_⟩
      have : 0 ≤ t → 0 ≤ t * 2 ^ k := fun h0 => Int.mul_nonneg h0 (by omega)
      omega
    rw [h1, h2]

/-! ### the order -/
theorem order_units {x y : Nat} (hx : rung x < INF) (hy : rung y < INF) : double.order x y = some (compare (V x) (V y)) := by
  unfold Format.order
  rw [read_fin hx, read_fin hy]
  simp only [Datum.order]
  generalize hk : min (pa (rung x)) (pa (rung y)) = k
  have hb : min (-1074 + (pa (rung x) : Int)) (-1074 + (pa (rung y) : Int)) = -1074 + (k : Int) := by omega
  rw [hb]
  have e1 : (-1074 + (pa (rung x) : Int) - (-1074 + (k : Int))).toNat = pa (rung x) - k := by omega
  have e2 : (-1074 + (pa (rung y) : Int) - (-1074 + (k : Int))).toNat = pa (rung y) - k := by omega
  rw [e1, e2]
  have hVx : V x = signed (sgn x) (mg (rung x)) (pa (rung x) - k) * (2 : Int) ^ k := by rw [signed_V _ _ _ _ (by omega), V_eq]
  have hVy : V y = signed (sgn y) (mg (rung y)) (pa (rung y) - k) * (2 : Int) ^ k := by rw [signed_V _ _ _ _ (by omega), V_eq]
  rw [hVx, hVy]
  generalize signed (sgn x) (mg (rung x)) (pa (rung x) - k) = a
  generalize signed (sgn y) (mg (rung y)) (pa (rung y) - k) = b
  have hp : (0 : Int) < 2 ^ k := Int.pow_pos (by omega)
  congr 1
  show compareOfLessAndEq a b = compareOfLessAndEq (a * 2 ^ k) (b * 2 ^ k)
  unfold compareOfLessAndEq
  have h1 : (a * 2 ^ k < b * 2 ^ k) ↔ a < b := Int.mul_lt_mul_right hp
  have h2 : (a * 2 ^ k = b * 2 ^ k) ↔ a = b := ⟨fun h => Int.eq_of_mul_eq_mul_right (by omega) h, fun h => by rw [h]⟩
  simp only [h1, h2]
/-- What is no NaN equals itself. -/
theorem order_self {x : Nat} (h : (double.read x).isNaN = false) : double.order x x = some .eq := by
  unfold Format.order
  cases hr : double.read x with
  | number s m i =>
    simp only [Datum.order]
    congr 1
    show compareOfLessAndEq _ _ = _
    simp [compareOfLessAndEq]
  | infinity s =>
    simp only [Datum.order]
    congr 1
    exact Nat.compare_eq_eq.2 rfl
  | nan s f => rw [hr] at h; cases h
end Go.Proofs.Qxb6617464a
