import Derived.Test.Qxb6621689aParent
namespace Go.Proofs.Qxb6621689a
open Go.RowKit
set_option linter.unusedSimpArgs false
set_option linter.unusedVariables false

/-! ### bytes -/
theorem byte_or : ∀ x : Fin 256, ∀ s t : Fin 8, (x.val ||| (128 / 2 ^ s.val)) / 2 ^ (7 - t.val) % 2 = if t = s then 1 else x.val / 2 ^ (7 - t.val) % 2 := by decide +kernel
theorem byte_andNot : ∀ x : Fin 256, ∀ s t : Fin 8, (x.val &&& (255 - 128 / 2 ^ s.val)) / 2 ^ (7 - t.val) % 2 = if t = s then 0 else x.val / 2 ^ (7 - t.val) % 2 := by decide +kernel
theorem byte_mask : ∀ x : Fin 256, ∀ r t : Fin 8, (x.val &&& (255 * 2 ^ (8 - r.val) % 256)) / 2 ^ (7 - t.val) % 2 = if t < r then x.val / 2 ^ (7 - t.val) % 2 else 0 := by decide +kernel

theorem toNat_shift (m : Nat) : ((128 : Int) / 2 ^ m).toNat = 128 / 2 ^ m := by
  have : ((128 : Int) / 2 ^ m) = ((128 / 2 ^ m : Nat) : Int) := by simp
  rw [this, Int.toNat_natCast]
theorem cast_bit (a m : Nat) : ((a : Nat) : Int) / 2 ^ m % 2 = ((a / 2 ^ m % 2 : Nat) : Int) := by simp

theorem or_bit (x : Int) (h0 : 0 ≤ x) (h1 : x ≤ 255) (s t : Nat) (hs : s < 8) (ht : t < 8) : bits .or .u8 x (128 / 2 ^ s) / 2 ^ (7 - t) % 2 = if t = s then 1 else x / 2 ^ (7 - t) % 2 := by
  obtain ⟨X, rfl⟩ := Int.eq_ofNat_of_zero_le h0
  have b := sh_bd s
  rw [u8_or _ _ h0 (by omega) b.1 (by omega), toNat_shift, Int.toNat_natCast, cast_bit]
  have := byte_or ⟨X, by omega⟩ ⟨s, hs⟩ ⟨t, ht⟩
  simp only [Fin.mk.injEq] at this
  rw [this, cast_bit]
  split <;> simp
theorem andNot_bit (x : Int) (h0 : 0 ≤ x) (h1 : x ≤ 255) (s t : Nat) (hs : s < 8) (ht : t < 8) : bits .andNot .u8 x (128 / 2 ^ s) / 2 ^ (7 - t) % 2 = if t = s then 0 else x / 2 ^ (7 - t) % 2 := by
  obtain ⟨X, rfl⟩ := Int.eq_ofNat_of_zero_le h0
  have b := sh_bd s
  rw [u8_andNot _ _ h0 (by omega) b.1 (by omega), toNat_shift, Int.toNat_natCast, cast_bit]
  have := byte_andNot ⟨X, by omega⟩ ⟨s, hs⟩ ⟨t, ht⟩
  simp only [Fin.mk.injEq] at this
  rw [this, cast_bit]
  split <;> simp
theorem mask_bit (x : Int) (h0 : 0 ≤ x) (h1 : x ≤ 255) (r t : Nat) (hr : r < 8) (ht : t < 8) : bits .and .u8 x (255 * 2 ^ (8 - r) % 256) / 2 ^ (7 - t) % 2 = if t < r then x / 2 ^ (7 - t) % 2 else 0 := by
  obtain ⟨X, rfl⟩ := Int.eq_ofNat_of_zero_le h0
  have e : ((255 : Int) * 2 ^ (8 - r) % 256) = ((255 * 2 ^ (8 - r) % 256 : Nat) : Int) := by simp
  rw [e, u8_and _ _ h0 (by omega) (by omega) (by omega), Int.toNat_natCast, Int.toNat_natCast, cast_bit]
  have := byte_mask ⟨X, by omega⟩ ⟨r, hr⟩ ⟨t, ht⟩
  simp only [Fin.mk_lt_mk] at this
  rw [this, cast_bit]
  split <;> simp
theorem byte_ext {x y : Int} (hx0 : 0 ≤ x) (hx1 : x ≤ 255) (hy0 : 0 ≤ y) (hy1 : y ≤ 255) (h : ∀ t : Nat, t < 8 → x / 2 ^ (7 - t) % 2 = y / 2 ^ (7 - t) % 2) : x = y := by
  have a0 := h 0 (by omega)
  have a1 := h 1 (by omega)
  have a2 := h 2 (by omega)
  have a3 := h 3 (by omega)
  have a4 := h 4 (by omega)
  have a5 := h 5 (by omega)
  have a6 := h 6 (by omega)
  have a7 := h 7 (by omega)
  simp only [Nat.reduceSub, Int.reducePow] at a0 a1 a2 a3 a4 a5 a6 a7
  omega

/-! ### bits of a list -/
theorem bitI_at (xs : List Int) (j t : Nat) (ht : t < 8) : bitI xs (8 * j + t : Int) = xs[j]?.getD 0 / 2 ^ (7 - t) % 2 := by
  unfold bitI
  have e1 : ((8 * j + t : Int) / 8).toNat = j := by omega
  have e2 : (7 - (8 * j + t : Int) % 8).toNat = 7 - t := by omega
  rw [e1, e2]
theorem at_bit {k : Int} (h0 : 0 ≤ k) : ∃ j t : Nat, t < 8 ∧ k = 8 * j + t := ⟨(k / 8).toNat, (k % 8).toNat, by omega, by omega⟩

theorem bits_ext {xs ys : List Int} (hx : Bytes16 xs) (hy : Bytes16 ys) (h : ∀ k, 0 ≤ k → k < 128 → bitI xs k = bitI ys k) : xs = ys := by
  refine List.ext_getElem (by rw [hx.len, hy.len]) fun j h1 h2 => ?_
  have b1 := hx.at j
  have b2 := hy.at j
  have e1 : xs[j]?.getD 0 = xs[j] := by simp [h1]
  have e2 : ys[j]?.getD 0 = ys[j] := by simp [h2]
  rw [← e1, ← e2]
  have := hx.len
  refine byte_ext b1.1 b1.2 b2.1 b2.2 fun t ht => ?_
  have := h (8 * j + t) (by omega) (by omega)
  rwa [bitI_at _ _ _ ht, bitI_at _ _ _ ht] at this

theorem bitI_set (xs : List Int) (hx : Bytes16 xs) (p : Nat) (hp : p < 16) (v : Int) (j t : Nat) (ht : t < 8) : bitI (xs.set p v) (8 * j + t : Int) = if j = p then v / 2 ^ (7 - t) % 2 else bitI xs (8 * j + t : Int) := by
  rw [bitI_at _ _ _ ht, bitI_at _ _ _ ht]
  have := hx.len
  split
  · rename_i e; subst e
    rw [List.getElem?_set_self (by omega)]; rfl
  · rename_i e
    rw [List.getElem?_set_ne (by omega)]

theorem bitI_setB {xs : List Int} (hx : Bytes16 xs) {pos k : Int} (hp0 : 0 ≤ pos) (hp1 : pos < 128) (hk0 : 0 ≤ k) : bitI (setB xs pos) k = if k = pos then 1 else bitI xs k := by
  obtain ⟨j, t, ht, rfl⟩ := at_bit hk0
  obtain ⟨p, s, hs, rfl⟩ := at_bit hp0
  unfold setB
  have e1 : ((8 * p + s : Int) / 8).toNat = p := by omega
  have e2 : ((8 * p + s : Int) % 8).toNat = s := by omega
  rw [e1, e2, bitI_set xs hx p (by omega) _ j t ht]
  by_cases hj : j = p
  · subst hj
    rw [if_pos rfl, or_bit _ (hx.at j).1 (hx.at j).2 s t hs ht, bitI_at _ _ _ ht]
    by_cases hts : t = s
    · rw [if_pos hts, if_pos (by omega)]
    · rw [if_neg hts, if_neg (by omega)]
  · rw [if_neg hj, if_neg (by omega)]
theorem bitI_clrB {xs : List Int} (hx : Bytes16 xs) {pos k : Int} (hp0 : 0 ≤ pos) (hp1 : pos < 128) (hk0 : 0 ≤ k) : bitI (clrB xs pos) k = if k = pos then 0 else bitI xs k := by
  obtain ⟨j, t, ht, rfl⟩ := at_bit hk0
  obtain ⟨p, s, hs, rfl⟩ := at_bit hp0
  unfold clrB
  have e1 : ((8 * p + s : Int) / 8).toNat = p := by omega
  have e2 : ((8 * p + s : Int) % 8).toNat = s := by omega
  rw [e1, e2, bitI_set xs hx p (by omega) _ j t ht]
  by_cases hj : j = p
  · subst hj
    rw [if_pos rfl, andNot_bit _ (hx.at j).1 (hx.at j).2 s t hs ht, bitI_at _ _ _ ht]
    by_cases hts : t = s
    · rw [if_pos hts, if_pos (by omega)]
    · rw [if_neg hts, if_neg (by omega)]
  · rw [if_neg hj, if_neg (by omega)]

theorem holds_iff {xs es : List Int} (hx : Bytes16 xs) (he : Bytes16 es) {n : Int} (h0 : 0 ≤ n) (h1 : n ≤ 128) (ht : TailZ xs n) : Holds xs n es ↔ Match xs es n := by
  obtain ⟨q, r, hr, rfl⟩ := at_bit h0
  unfold Holds Match
  have e1 : ((8 * q + r : Int) / 8).toNat = q := by omega
  have e2 : (8 - (8 * q + r : Int) % 8).toNat = 8 - r := by omega
  have e3 : (8 * q + r : Int) % 8 = r := by omega
  rw [e1, e2, e3]
  have lx := hx.len
  have le := he.len
  have bx := hx.at q
  have be := he.at q
  constructor
  · rintro ⟨h1, h2⟩ k hk0 hk1
    obtain ⟨j, t, htt, rfl⟩ := at_bit hk0
    rw [bitI_at _ _ _ htt, bitI_at _ _ _ htt]
    by_cases hj : j < q
    · have g := congrArg (fun l : List Int => l[j]?) h1
      simp only [List.getElem?_take, hj, if_true] at g
      rw [g]
    · have hj' : j = q := by omega
      subst hj'
      have hrz : ¬ (r : Int) = 0 := by omega
      have hm := h2.resolve_left hrz
      have := mask_bit _ be.1 be.2 r t hr htt
      rw [hm, if_pos (by omega)] at this
      exact this
  · intro h
    refine ⟨?_, ?_⟩
    · refine List.ext_getElem (by simp; omega) fun j g1 g2 => ?_
      have hj : j < q := by simp at g1; omega
      have b1 := hx.at j
      have b2 := he.at j
      have ex : xs[j]?.getD 0 = xs[j]'(by omega) := by rw [List.getElem?_eq_getElem (by omega)]; rfl
      have ee : es[j]?.getD 0 = es[j]'(by omega) := by rw [List.getElem?_eq_getElem (by omega)]; rfl
      rw [List.getElem_take, List.getElem_take, ← ex, ← ee]
      refine byte_ext b2.1 b2.2 b1.1 b1.2 fun t ht => ?_
      have := h (8 * j + t) (by omega) (by omega)
      rw [bitI_at _ _ _ ht, bitI_at _ _ _ ht] at this
      exact this.symm
    · by_cases hrz : (r : Int) = 0
      · exact Or.inl hrz
      · refine Or.inr ?_
        have hq : q < 16 := by omega
        have bm : 0 ≤ bits .and .u8 (es[q]?.getD 0) (255 * 2 ^ (8 - r) % 256) ∧ bits .and .u8 (es[q]?.getD 0) (255 * 2 ^ (8 - r) % 256) ≤ 255 := by
          have e : ((255 : Int) * 2 ^ (8 - r) % 256) = ((255 * 2 ^ (8 - r) % 256 : Nat) : Int) := by simp
          rw [e, u8_and _ _ be.1 (by omega) (by omega) (by omega), Int.toNat_natCast]
          have : (es[q]?.getD 0).toNat &&& 255 * 2 ^ (8 - r) % 256 < 2 ^ 8 := Nat.and_lt_two_pow _ (by omega)
          omega
        refine byte_ext bm.1 bm.2 bx.1 bx.2 fun t htt => ?_
        rw [mask_bit _ be.1 be.2 r t hr htt]
        split
        · have := h (8 * q + t) (by omega) (by omega)
          rw [bitI_at _ _ _ htt, bitI_at _ _ _ htt] at this
          exact this.symm
        · have := ht (8 * q + t) (by omega) (by omega)
          rw [bitI_at _ _ _ htt] at this
          exact this.symm

/-! ### the child's and the parent's bits -/
theorem bitI_chL {xs : List Int} (hx : Bytes16 xs) {n i : Int} (h0 : 0 ≤ n) (h1 : n ≤ 126) (hi0 : 0 ≤ i) (hi1 : i ≤ 3) (ht : TailZ xs n) {k : Int} (hk0 : 0 ≤ k) :
    bitI (chL xs n i 2) k = if k = n then i / 2 else if k = n + 1 then i % 2 else bitI xs k := by
  have z0 := ht n (by omega) (by omega)
  have z1 := ht (n + 1) (by omega) (by omega)
  have key1 : ∀ k, 0 ≤ k → bitI (chL xs n i 1) k = if k = n then i / 2 else bitI xs k := by
    intro k hk0
    rw [chL_1]
    by_cases c : i / 2 % 2 = 1
    · rw [if_pos c, bitI_setB (hx.chL n i 0) h0 (by omega) hk0]
      have : i / 2 = 1 := by omega
      rw [this]; rfl
    · rw [if_neg c]
      have e : i / 2 = 0 := by omega
      rw [e]
      show bitI xs k = _
      split
      · rename_i e; rw [e, z0]
      · rfl
  rw [chL_2]
  by_cases c : i % 2 = 1
  · rw [if_pos c, bitI_setB (hx.chL n i 1) (by omega) (by omega) hk0, key1 k hk0]
    by_cases e1 : k = n + 1
    · rw [if_pos e1, if_neg (by omega), if_pos e1]; omega
    · rw [if_neg e1]
      by_cases e2 : k = n
      · rw [if_pos e2, if_pos e2]
      · rw [if_neg e2, if_neg e2, if_neg e1]
  · rw [if_neg c, key1 k hk0]
    by_cases e2 : k = n
    · rw [if_pos e2, if_pos e2]
    · rw [if_neg e2, if_neg e2]
      by_cases e1 : k = n + 1
      · rw [if_pos e1, e1, z1]; omega
      · rw [if_neg e1]
theorem bitI_paL {xs : List Int} (hx : Bytes16 xs) {n : Int} (h0 : 0 ≤ n) (h1 : n ≤ 126) {k : Int} (hk0 : 0 ≤ k) :
    bitI (paL xs n 2) k = if k = n ∨ k = n + 1 then 0 else bitI xs k := by
  rw [paL_2, bitI_clrB (hx.paL n 1) (by omega) (by omega) hk0, paL_1, bitI_clrB (hx.paL n 0) h0 (by omega) hk0]
  by_cases e1 : k = n + 1
  · rw [if_pos e1, if_pos (Or.inr e1)]
  · by_cases e2 : k = n
    · rw [if_neg e1, if_pos e2, if_pos (Or.inl e2)]
    · rw [if_neg e1, if_neg e2, if_neg (by omega)]; rfl

theorem tail_chL {xs : List Int} (hx : Bytes16 xs) {n i : Int} (h0 : 0 ≤ n) (h1 : n ≤ 126) (hi0 : 0 ≤ i) (hi1 : i ≤ 3) (ht : TailZ xs n) : TailZ (chL xs n i 2) (n + 2) := fun k hk0 hk1 => by
  rw [bitI_chL hx h0 h1 hi0 hi1 ht (by omega), if_neg (by omega), if_neg (by omega)]
  exact ht k (by omega) hk1
theorem tail_paL {xs : List Int} (hx : Bytes16 xs) {n : Int} (h0 : 0 ≤ n) (h1 : n ≤ 126) (ht : TailZ xs (n + 2)) : TailZ (paL xs n 2) n := fun k hk0 hk1 => by
  rw [bitI_paL hx h0 h1 (by omega)]
  split
  · rfl
  · exact ht k (by omega) hk1

/-- The index that Parent names. -/
def idx (xs : List Int) (n : Int) : Int := 2 * bitI xs n + bitI xs (n + 1)
theorem idx_bd (xs : List Int) (n : Int) : 0 ≤ idx xs n ∧ idx xs n ≤ 3 := by
  have a := bitI_01 xs n
  have b := bitI_01 xs (n + 1)
  unfold idx; omega

theorem match_chL {xs es : List Int} (hx : Bytes16 xs) {n i : Int} (h0 : 0 ≤ n) (h1 : n ≤ 126) (hi0 : 0 ≤ i) (hi1 : i ≤ 3) (ht : TailZ xs n) :
    Match (chL xs n i 2) es (n + 2) ↔ Match xs es n ∧ idx es n = i := by
  have a := bitI_01 es n
  have b := bitI_01 es (n + 1)
  have c0 : bitI (chL xs n i 2) n = i / 2 := by rw [bitI_chL hx h0 h1 hi0 hi1 ht h0, if_pos rfl]
  have c1 : bitI (chL xs n i 2) (n + 1) = i % 2 := by rw [bitI_chL hx h0 h1 hi0 hi1 ht (by omega), if_neg (by omega), if_pos rfl]
  constructor
  · intro h
    refine ⟨fun k hk0 hk1 => ?_, ?_⟩
    · have := h k hk0 (by omega)
      rwa [bitI_chL hx h0 h1 hi0 hi1 ht hk0, if_neg (by omega), if_neg (by omega)] at this
    · have g0 := h n h0 (by omega)
      have g1 := h (n + 1) (by omega) (by omega)
      rw [c0] at g0; rw [c1] at g1
      unfold idx; omega
  · rintro ⟨h, hi⟩ k hk0 hk1
    unfold idx at hi
    by_cases e : k = n
    · subst e; rw [c0]; omega
    · by_cases e1 : k = n + 1
      · subst e1; rw [c1]; omega
      · rw [bitI_chL hx h0 h1 hi0 hi1 ht hk0, if_neg e, if_neg e1]
        exact h k hk0 (by omega)
theorem match_paL {xs es : List Int} (hx : Bytes16 xs) {n : Int} (h0 : 0 ≤ n) (h1 : n ≤ 126) : Match (paL xs n 2) es n ↔ Match xs es n := by
  constructor <;> intro h k hk0 hk1
  · have := h k hk0 hk1
    rwa [bitI_paL hx h0 h1 hk0, if_neg (by omega)] at this
  · rw [bitI_paL hx h0 h1 hk0, if_neg (by omega)]
    exact h k hk0 hk1

theorem paL_chL {xs : List Int} (hx : Bytes16 xs) {n i : Int} (h0 : 0 ≤ n) (h1 : n ≤ 126) (hi0 : 0 ≤ i) (hi1 : i ≤ 3) (ht : TailZ xs n) : paL (chL xs n i 2) n 2 = xs := by
  refine bits_ext ((hx.chL n i 2).paL n 2) hx fun k hk0 hk1 => ?_
  rw [bitI_paL (hx.chL n i 2) h0 h1 hk0, bitI_chL hx h0 h1 hi0 hi1 ht hk0]
  split
  · rename_i e
    exact (ht k (by omega) hk1).symm
  · rw [if_neg (by omega), if_neg (by omega)]
theorem idx_chL {xs : List Int} (hx : Bytes16 xs) {n i : Int} (h0 : 0 ≤ n) (h1 : n ≤ 126) (hi0 : 0 ≤ i) (hi1 : i ≤ 3) (ht : TailZ xs n) : 2 * bitI (chL xs n i 2) n + bitI (chL xs n i 2) (n + 1) = i := by
  rw [bitI_chL hx h0 h1 hi0 hi1 ht h0, if_pos rfl, bitI_chL hx h0 h1 hi0 hi1 ht (by omega), if_neg (by omega), if_pos rfl]
  omega
theorem chL_paL {xs : List Int} (hx : Bytes16 xs) {n : Int} (h0 : 0 ≤ n) (h1 : n ≤ 126) (ht : TailZ xs (n + 2)) : chL (paL xs n 2) n (2 * bitI xs n + bitI xs (n + 1)) 2 = xs := by
  have a := bitI_01 xs n
  have b := bitI_01 xs (n + 1)
  have bd := idx_bd xs n
  unfold idx at bd
  refine bits_ext ((hx.paL n 2).chL _ _ _) hx fun k hk0 hk1 => ?_
  rw [bitI_chL (hx.paL n 2) h0 h1 bd.1 bd.2 (tail_paL hx h0 h1 ht) hk0, bitI_paL hx h0 h1 hk0]
  by_cases e : k = n
  · rw [if_pos e, e]; omega
  · by_cases e1 : k = n + 1
    · rw [if_neg e, if_pos e1, e1]; omega
    · rw [if_neg e, if_neg e1, if_neg (by omega)]
end Go.Proofs.Qxb6621689a
