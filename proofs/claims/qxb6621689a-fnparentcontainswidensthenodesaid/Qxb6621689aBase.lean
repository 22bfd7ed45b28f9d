import Derived.Test.Qxb6621689aRows
import Derived.WalkKit
import Derived.WalkSpells
import Derived.WalkLawsBesides
import Derived.Deep.RegionHeld3
import Derived.Deep.MidRow
import Derived.Deep.DrawnRows
namespace Go.Proofs.Qxb6621689a
open Go.RowKit
set_option linter.unusedSimpArgs false
set_option linter.unusedVariables false

/-- The cells of a [16]byte. -/
def bl (xs : List Int) : List Value := xs.map (Value.int .u8)
/-- The cells of a Prefix. -/
def pl (xs : List Int) (n : Int) : List Value := xs.map (Value.int .u8) ++ [Value.int .i64 n]

/-- Bit k, counting from the most significant bit of the first byte. -/
def bitI (xs : List Int) (k : Int) : Int := xs[(k / 8).toNat]?.getD 0 / 2 ^ (7 - k % 8).toNat % 2

/-- A list of sixteen bytes. -/
structure Bytes16 (xs : List Int) : Prop where
  len : xs.length = 16
  bd : ∀ n ∈ xs, 0 ≤ n ∧ n ≤ 255

theorem Bytes16.at {xs : List Int} (h : Bytes16 xs) (j : Nat) : 0 ≤ xs[j]?.getD 0 ∧ xs[j]?.getD 0 ≤ 255 := by
  by_cases hj : j < xs.length
  · have := h.bd xs[j] (List.getElem_mem hj)
    simp [hj]; omega
  · simp [List.getElem?_eq_none (by omega : xs.length ≤ j)]

theorem bl_get (xs : List Int) (j : Nat) (h : j < xs.length) : (bl xs)[j]? = some (.int .u8 (xs[j]?.getD 0)) := by
  simp [bl, h]
theorem bl_len (xs : List Int) : (bl xs).length = xs.length := by simp [bl]
theorem pl_get (xs : List Int) (n : Int) (j : Nat) (h : j < xs.length) : (pl xs n)[j]? = some (.int .u8 (xs[j]?.getD 0)) := by
  unfold pl; rw [List.getElem?_append_left (by simpa using h)]; simp [h]
theorem pl_last (xs : List Int) (n : Int) (h : xs.length = 16) : (pl xs n)[16]? = some (.int .i64 n) := by
  simp [pl, h]
theorem pl_len (xs : List Int) (n : Int) : (pl xs n).length = xs.length + 1 := by simp [pl]
theorem bl_one (xs : List Int) : ∀ v ∈ bl xs, v.oneCell' = true := by
  intro v hv; simp [bl] at hv; obtain ⟨a, _, rfl⟩ := hv; rfl
theorem pl_one (xs : List Int) (n : Int) : ∀ v ∈ pl xs n, v.oneCell' = true := by
  intro v hv; simp [pl] at hv; rcases hv with ⟨a, _, rfl⟩ | rfl <;> rfl

theorem and_one_u8 (x : Int) (h0 : 0 ≤ x) (h1 : x < 256) : bits .and .u8 x 1 = x % 2 := by
  rw [u8_and x 1 h0 h1 (by omega) (by omega)]
  obtain ⟨X, rfl⟩ := Int.eq_ofNat_of_zero_le h0
  simp
theorem div_pow_bd (x : Int) (n : Nat) (h0 : 0 ≤ x) (h1 : x < 256) : 0 ≤ x / 2 ^ n ∧ x / 2 ^ n < 256 := by
  have hp : (0 : Int) < 2 ^ n := Int.pow_pos (by omega)
  refine ⟨Int.ediv_nonneg h0 (by omega), ?_⟩
  have := Int.ediv_le_self (2 ^ n) h0
  omega

theorem bitI_01 (xs : List Int) (k : Int) : bitI xs k = 0 ∨ bitI xs k = 1 := by unfold bitI; omega

/-- The call came back with a bool that tells whether p holds. -/
def Says (p : Prop) (e : Ending) : Prop := ∃ b : Bool, e = .returned (.bool b) ∧ (b = true ↔ p)

theorem ret_int {k : IntKind} {a b : Int} (h : a = b) : Ending.returned (.int k a) = .returned (.int k b) := by rw [h]

/-! ### worlds -/
theorem range_block {w : World} {g : Nat} {cs : List Value} {t : TypeId} (hg : w.heap[g]? = some (.cells cs.toArray t)) : w.rangeAt g 0 cs := fun j v hv => by
  rw [Nat.zero_add, cell_of_row w g j _ t (0, 0) hg]; simpa using hv
theorem range_new (w : World) (cs : List Value) (t : TypeId) : (w.alloc (.cells cs.toArray t)).rangeAt w.heap.size 0 cs := range_block (heap_alloc_new w _)
theorem range_below {B : Nat} {w w' : World} (h : Below B w w') {b o : Nat} {cs : List Value} (hr : w.rangeAt b o cs) (hb : b < B) : w'.rangeAt b o cs := fun j v hv => by
  rw [h.cell (p := ⟨b, o + j, none⟩) hb]; exact hr j v hv

theorem below_behind {w0 W w1 : World} (h : Below w0.heap.size w0 W) (hc : Below W.heap.size W w1) : Below w0.heap.size w0 w1 := h.trans (hc.mono h.size)

theorem Try.size22 : (Try.prog.info? 22).map (·.size) = some 16 := by kernel_rfl
theorem Try.size24 : (Try.prog.info? 24).map (·.size) = some 16 := by kernel_rfl
theorem Try.size26 : (Try.prog.info? 26).map (·.size) = some 17 := by kernel_rfl
theorem info22 {xs : List Int} (h : Bytes16 xs) : (Try.prog.info? 22).map (·.size) = some (bl xs).length := by rw [bl_len, h.len]; exact Try.size22
theorem info24 {xs : List Int} (h : Bytes16 xs) : (Try.prog.info? 24).map (·.size) = some (bl xs).length := by rw [bl_len, h.len]; exact Try.size24
theorem info26 {xs : List Int} (h : Bytes16 xs) (n : Int) : (Try.prog.info? 26).map (·.size) = some (pl xs n).length := by rw [pl_len, h.len]; exact Try.size26

/-! ### zzBitOf -/
set_option maxHeartbeats 400000 in
theorem bitOf_any (xs : List Int) (k : Int) (w : World) (hx : Bytes16 xs) (h0 : 0 ≤ k) (h1 : k < 128) :
    Calls Try.prog 16 #[.agg (bl xs).toArray, .int .i64 k] w fun e w' => e = .returned (.int .u8 (bitI xs k)) ∧ w' = w.alloc (.cells (bl xs).toArray 22) := by
  have hc : (w.alloc (.cells (bl xs).toArray 22)).cell? ⟨w.heap.size, (k/8).toNat, none⟩ = some (.int .u8 (xs[(k/8).toNat]?.getD 0)) := by
    have := range_new w (bl xs) 22 (k/8).toNat _ (bl_get xs _ (by have := hx.len; omega))
    simpa using this
  have hd := div_pow_bd _ (7 - k % 8).toNat (hx.at (k / 8).toNat).1 (by have := (hx.at (k / 8).toNat).2; omega)
  have HB : Hid (bits .and .u8 (xs[(k / 8).toNat]?.getD 0 / 2 ^ (7 - k % 8).toNat) 1 = bitI xs k) := and_one_u8 _ hd.1 hd.2
  clear hd
  go_enter Try.func16, Try.ntmps16
  go_wp2
  go_ret
  exact ⟨ret_int HB.out, rfl⟩

theorem bitOf_b (xs : List Int) (k : Int) (w : World) (hx : Bytes16 xs) (h0 : 0 ≤ k) (h1 : k < 128) :
    Calls Try.prog 16 #[.agg (bl xs).toArray, .int .i64 k] w fun e w' => e = .returned (.int .u8 (bitI xs k)) ∧ Below w.heap.size w w' := by
  refine (bitOf_any xs k w hx h0 h1).mono ?_
  rintro e w' ⟨rfl, rfl⟩
  exact ⟨rfl, (Below.refl _ _).alloc (Nat.le_refl _) _⟩

/-! ### zzTailZero -/
/-- Every bit from n on is zero. -/
def TailZ (xs : List Int) (n : Int) : Prop := ∀ k, n ≤ k → k < 128 → bitI xs k = 0

set_option maxHeartbeats 400000 in
theorem tail_any (xs : List Int) (n : Int) (w : World) (hx : Bytes16 xs) (h0 : 0 ≤ n) (h1 : n ≤ 128) :
    Calls Try.prog 7 #[.agg (bl xs).toArray, .int .i64 n] w fun e w' => Says (TailZ xs n) e ∧ Below w.heap.size w w' := by
  have hi := info22 hx
  go_enter Try.func7, Try.ntmps7
  go_wp2
  go_loopw [5] (fun i wr => ∃ k : Int, n ≤ k ∧ k ≤ 128 ∧ i = .int .i64 k ∧ (∀ j, n ≤ j → j < k → bitI xs j = 0) ∧ Below (w.heap.size + 1) (w.alloc (.cells (bl xs).toArray 22)) wr) (fun i _ => (128 - intOf i).toNat)
  case atStart => exact ⟨n, by omega, by omega, rfl, by omega, Below.refl _ _⟩
  case round =>
    obtain ⟨k, hk1, hk2, rfl, hz, hb⟩ := hrel
    have hg : wr.rangeAt w.heap.size 0 (bl xs) := range_below hb (range_new w _ 22) (by omega)
    have hsz : w.heap.size + 1 ≤ wr.heap.size := by have := hb.size; simpa using this
    have hbw : Below w.heap.size w wr := ((Below.refl _ w).alloc (Nat.le_refl _) _).trans (hb.mono (by omega))
    by_cases hlt : k < 128
    · by_cases hbit : bitI xs k = 0
      · have hbb : (bitI xs k != 0) = false := by simp [hbit]
        have HB : Hid (bitI xs k = 0) := hbit
        clear hbit
        go_wp2_with (first | (refine wpList_load_mid rfl 22 _ rfl _ 0 rfl _ _ hg Try.underlying22 rfl hi ?_) | (go_at_call 16; refine (bitOf_any xs k _ hx (by omega) hlt).mono ?_; rintro e w' ⟨rfl, rfl⟩))
        go_roundw
        case rel => exact ⟨k + 1, by omega, by omega, rfl, fun j hj1 hj2 => by
            by_cases e : j = k
            · rw [e]; exact HB.out
            · exact hz j hj1 (by omega), hb.alloc (by omega) _⟩
        case measure => simp [intOf]; omega
      · have hbb : (bitI xs k != 0) = true := by simp [hbit]
        go_wp2_with (first | (refine wpList_load_mid rfl 22 _ rfl _ 0 rfl _ _ hg Try.underlying22 rfl hi ?_) | (go_at_call 16; refine (bitOf_any xs k _ hx (by omega) hlt).mono ?_; rintro e w' ⟨rfl, rfl⟩))
        go_ret
        refine ⟨⟨false, rfl, ?_⟩, hbw.alloc (by omega) _⟩
        simp only [Bool.false_eq_true, false_iff]
        exact fun h => hbit (h k hk1 hlt)
    · go_wp2
      go_ret
      refine ⟨⟨true, rfl, ?_⟩, hbw⟩
      simp only [true_iff]
      exact fun j hj1 hj2 => hz j hj1 (by omega)

theorem tail_yes (xs : List Int) (n : Int) (w : World) (hx : Bytes16 xs) (h0 : 0 ≤ n) (h1 : n ≤ 128) (ht : TailZ xs n) :
    Calls Try.prog 7 #[.agg (bl xs).toArray, .int .i64 n] w fun e w' => e = .returned (.bool true) ∧ Below w.heap.size w w' := by
  refine (tail_any xs n w hx h0 h1).mono ?_
  rintro e w' ⟨⟨b, rfl, hb⟩, h⟩
  rw [hb.2 ht]; exact ⟨rfl, h⟩
theorem tail_no (xs : List Int) (n : Int) (w : World) (hx : Bytes16 xs) (h0 : 0 ≤ n) (h1 : n ≤ 128) (ht : ¬ TailZ xs n) :
    Calls Try.prog 7 #[.agg (bl xs).toArray, .int .i64 n] w fun e w' => e = .returned (.bool false) ∧ Below w.heap.size w w' := by
  refine (tail_any xs n w hx h0 h1).mono ?_
  rintro e w' ⟨⟨b, rfl, hb⟩, h⟩
  have : b = false := by cases b with | false => rfl | true => exact absurd (hb.1 rfl) ht
  rw [this]; exact ⟨rfl, h⟩

/-! ### zzMatch -/
/-- The first n bits agree. -/
def Match (xs ys : List Int) (n : Int) : Prop := ∀ k, 0 ≤ k → k < n → bitI xs k = bitI ys k

set_option maxHeartbeats 1000000 in
theorem match_any (xs ys : List Int) (n : Int) (w : World) (hx : Bytes16 xs) (hy : Bytes16 ys) (h0 : 0 ≤ n) (h1 : n ≤ 128) :
    Calls Try.prog 13 #[.agg (bl xs).toArray, .agg (bl ys).toArray, .int .i64 n] w fun e w' => Says (Match xs ys n) e ∧ Below w.heap.size w w' := by
  have hi := info22 hx
  have hj := info22 hy
  go_enter Try.func13, Try.ntmps13
  go_wp2
  go_loopw [7] (fun i wr => ∃ k : Int, 0 ≤ k ∧ k ≤ n ∧ i = .int .i64 k ∧ Match xs ys k ∧ Below (w.heap.size + 2) ((w.alloc (.cells (bl xs).toArray 22)).alloc (.cells (bl ys).toArray 22)) wr) (fun i _ => (128 - intOf i).toNat)
  case atStart => exact ⟨0, by omega, by omega, rfl, fun k _ _ => by omega, Below.refl _ _⟩
  case round =>
    obtain ⟨k, hk1, hk2, rfl, hz, hb⟩ := hrel
    have hg1 : wr.rangeAt w.heap.size 0 (bl xs) := range_below hb (World.rangeAt_alloc (range_new w _ 22) _) (by omega)
    have hg2 : wr.rangeAt (w.heap.size + 1) 0 (bl ys) := range_below hb (by have := range_new (w.alloc (.cells (bl xs).toArray 22)) (bl ys) 22; simpa using this) (by omega)
    have hsz : w.heap.size + 2 ≤ wr.heap.size := by have := hb.size; simpa using this
    have hbw : Below w.heap.size w wr := (((Below.refl _ w).alloc (Nat.le_refl _) _).alloc (by simp) _).trans (hb.mono (by omega))
    by_cases hlt : k < n
    · generalize hne : (bitI xs k != bitI ys k) = bb
      have HN : Hid ((bitI xs k != bitI ys k) = bb) := hne
      go_wp2
      refine wp_region_held_drew (S := Below wr.heap.size wr) (by kernel_rfl) (Below.refl _ _).drew (fun hHeld => ?_)
      refine wpAnyH_take (i := 0) (v := .agg (bl xs).toArray) rfl (by kernel_rfl) (by kernel_rfl) (by kernel_rfl) (fun _ _ _ h => h) (yieldsIf_load_mid (by rfl) 22 _ rfl _ 0 rfl (bl xs) _ (fun _ h => range_below h hg1 (by omega)) Try.underlying22 rfl hi) hHeld ?_
      refine wpAnyH_take (i := 3) (v := .agg (bl ys).toArray) rfl (by kernel_rfl) (by kernel_rfl) (by kernel_rfl) (fun _ _ _ h => h) (yieldsIf_load_mid (by rfl) 22 _ rfl _ 0 rfl (bl ys) _ (fun _ h => range_below h hg2 (by omega)) Try.underlying22 rfl hj) hHeld ?_
      refine wpAnyH_take (i := 1) (v := .int .i64 k) rfl (by kernel_rfl) (by kernel_rfl) (by kernel_rfl) (fun _ _ _ h => h) (Or.inl ⟨by rfl, fun _ _ => by go_simp⟩) hHeld ?_
      refine wpAnyH_take (i := 4) (v := .int .i64 k) rfl (by kernel_rfl) (by kernel_rfl) (by kernel_rfl) (fun _ _ _ h => h) (Or.inl ⟨by rfl, fun _ _ => by go_simp⟩) hHeld ?_
      try simp only [Act.put, List.setIfInBounds_toArray, List.set_cons_zero, List.set_cons_succ]
      refine wpAnyH_ready (rs := [2]) (by kernel_rfl) (by simp) ?_
      refine AllReadyH.cons rfl (fun K hK => ?_) AllReadyH.nil
      go_simp
      refine (bitOf_b xs k _ hx (by omega) (by omega)).mono ?_
      rintro e w1 ⟨rfl, hc⟩
      refine hK.out _ _ (below_behind hHeld hc) (fun hHeld => ?_)
      clear hK K hc
      try simp only [Act.put, List.setIfInBounds_toArray, List.set_cons_zero, List.set_cons_succ]
      refine wpAnyH_ready (rs := [5]) (by kernel_rfl) (by simp) ?_
      refine AllReadyH.cons rfl (fun K hK => ?_) AllReadyH.nil
      go_simp
      refine (bitOf_b ys k _ hy (by omega) (by omega)).mono ?_
      rintro e w2 ⟨rfl, hc⟩
      refine hK.out _ _ (below_behind hHeld hc) (fun hHeld => ?_)
      clear hK K hc
      try simp only [Act.put, List.setIfInBounds_toArray, List.set_cons_zero, List.set_cons_succ]
      refine wpAnyH_take (i := 6) (v := .bool bb) rfl (by kernel_rfl) (by kernel_rfl) (by kernel_rfl) (fun _ _ _ h => h) (Or.inl ⟨by rfl, fun _ _ => by go_simp⟩) hHeld ?_
      try simp only [Act.put, List.setIfInBounds_toArray, List.set_cons_zero, List.set_cons_succ]
      refine wpAnyH_done (by kernel_rfl) ?_ _
      clear hne
      cases bb with
      | false =>
        have hbit : bitI xs k = bitI ys k := by have := HN.out; simpa using this
        have HB : Hid (bitI xs k = bitI ys k) := hbit
        clear hbit
        go_wp2
        go_roundw
        case rel => exact ⟨k + 1, by omega, by omega, rfl, fun j hj1 hj2 => by
            by_cases e : j = k
            · rw [e]; exact HB.out
            · exact hz j hj1 (by omega), hb.trans (hHeld.mono (by omega))⟩
        case measure => simp [intOf]; omega
      | true =>
        have hbit : ¬ bitI xs k = bitI ys k := by have := HN.out; simpa using this
        go_wp2
        go_ret
        refine ⟨⟨false, rfl, ?_⟩, hbw.trans (hHeld.mono (by omega))⟩
        simp only [Bool.false_eq_true, false_iff]
        exact fun h => hbit (h k hk1 hlt)
    · go_wp2
      go_ret
      refine ⟨⟨true, rfl, ?_⟩, hbw⟩
      simp only [true_iff]
      exact fun j hj1 hj2 => hz j hj1 (by omega)
end Go.Proofs.Qxb6621689a
