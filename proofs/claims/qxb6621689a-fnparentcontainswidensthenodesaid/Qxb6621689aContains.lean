import Derived.Test.Qxb6621689aChild
namespace Go.Proofs.Qxb6621689a
open Go.RowKit
set_option linter.unusedSimpArgs false
set_option linter.unusedVariables false

theorem strOf_inj {l m : List Int} (hl : ∀ n ∈ l, 0 ≤ n ∧ n ≤ 255) (hm : ∀ n ∈ m, 0 ≤ n ∧ n ≤ 255) : ((strOfNums l).toList == (strOfNums m).toList) = true ↔ l = m := by
  rw [ByteArray.toList_eq, ByteArray.toList_eq, strOfNums_data, strOfNums_data, beq_iff_eq]
  constructor
  · intro h
    have key : ∀ (l : List Int), (∀ n ∈ l, 0 ≤ n ∧ n ≤ 255) → (l.map fun n => UInt8.ofNat n.toNat).map (fun u => (u.toNat : Int)) = l := by
      intro l hl
      rw [List.map_map]
      conv => rhs; rw [← List.map_id l]
      refine List.map_congr_left fun n hn => ?_
      have := hl n hn
      simp
      omega
    rw [← key l hl, ← key m hm, h]
  · rintro rfl; rfl

set_option maxHeartbeats 400000 in
theorem equal_any (xs ys : List Int) (hx : Bytes16 xs) (hy : Bytes16 ys) (b c : Nat) (m : Nat) (hm : m ≤ 16) (w : World) (hr : w.rangeAt b 0 (bl xs)) (hs : w.rangeAt c 0 (bl ys)) :
    Calls Try.prog 19 #[.slice (some ⟨b, 0, none⟩) m 16, .slice (some ⟨c, 0, none⟩) m 16] w fun e w' => Says (xs.take m = ys.take m) e ∧ w' = w := by
  have hl := hx.len
  have hl2 := hy.len
  have k1 := run_convert_bytes_arg (P := Try.prog) w 44 5 Try.underlying44 Try.underlying5 b 0 m 16 (xs.take m) (by simp; omega) (fun i hi => by
    have := range_byte hr i (by omega)
    rw [Nat.zero_add, this]
    simp [hi, List.getElem?_take]) 9 Try.underlying9
  have k2 := run_convert_bytes_arg (P := Try.prog) w 44 5 Try.underlying44 Try.underlying5 c 0 m 16 (ys.take m) (by simp; omega) (fun i hi => by
    have := range_byte hs i (by omega)
    rw [Nat.zero_add, this]
    simp [hi, List.getElem?_take]) 9 Try.underlying9
  go_enter Try.func19, Try.ntmps19
  go_wp2
  go_ret
  refine ⟨⟨_, rfl, ?_⟩, rfl⟩
  exact strOf_inj (fun n hn => hx.bd n (List.mem_of_mem_take hn)) (fun n hn => hy.bd n (List.mem_of_mem_take hn))

/-- What Contains tells, in its own words. -/
def Holds (xs : List Int) (n : Int) (es : List Int) : Prop :=
  es.take (n / 8).toNat = xs.take (n / 8).toNat ∧ (n % 8 = 0 ∨ bits .and .u8 (es[(n / 8).toNat]?.getD 0) (255 * 2 ^ (8 - n % 8).toNat % 256) = xs[(n / 8).toNat]?.getD 0)

set_option maxHeartbeats 1000000 in
theorem contains_any (xs es : List Int) (n : Int) (w : World) (hx : Bytes16 xs) (he : Bytes16 es) (h0 : 0 ≤ n) (h1 : n ≤ 128) :
    Calls Try.prog 14 #[.agg (pl xs n).toArray, .agg (bl es).toArray] w fun e w' => Says (Holds xs n es) e ∧ Below w.heap.size w w' := by
  have hr := World.rangeAt_alloc (range_new w (pl xs n) 26) (.cells (bl es).toArray 24)
  have hs := range_new (w.alloc (.cells (pl xs n).toArray 26)) (bl es) 24
  have esz : (w.alloc (.cells (pl xs n).toArray 26)).heap.size = w.heap.size + 1 := by simp
  rw [esz] at hs
  have hb : Below w.heap.size w ((w.alloc (.cells (pl xs n).toArray 26)).alloc (.cells (bl es).toArray 24)) := ((Below.refl _ _).alloc (Nat.le_refl _) _).alloc (by simp) _
  have hl := range_len hx.len hr
  go_enter Try.func14, Try.ntmps14
  go_wp2
  generalize (w.alloc (.cells (pl xs n).toArray 26)).alloc (.cells (bl es).toArray 24) = w0 at *
  have q0 : 0 ≤ n / 8 := by omega
  have q1 : n / 8 ≤ 16 := by omega
  go_region
  go_wp2
  go_region_with (go_at_call 19; refine (equal_any es xs he hx _ _ _ ?_ _ ?_ ?_).mono ?_; omega; exact hs; exact range_bits hr; rintro e w' ⟨⟨bb, rfl, hbb⟩, rfl⟩)
  have HB : Hid (bb = true ↔ List.take (n / 8).toNat es = List.take (n / 8).toNat xs) := hbb
  clear hbb
  cases bb with
  | false =>
    go_wp2
    go_ret
    refine ⟨⟨false, rfl, ?_⟩, hb.drew.drew⟩
    simp only [Bool.false_eq_true, false_iff]
    exact fun h => by have := HB.out.2 h.1; cases this
  | true =>
    by_cases hz : n % 8 = 0
    · have hzb : (n % 8 == 0) = true := by simp [hz]
      have HZ : Hid (n % 8 = 0) := hz
      clear hz
      go_wp2
      go_ret
      refine ⟨⟨true, rfl, ?_⟩, hb.drew.drew⟩
      simp only [true_iff]
      exact ⟨HB.out.1 trivial, Or.inl HZ.out⟩
    · have hzb : (n % 8 == 0) = false := by simp [hz]
      have q2 : n / 8 < 16 := by omega
      have hc1 := range_byte hs (n / 8).toNat (by rw [he.len]; omega)
      have hc2 := range_byte (range_bits hr) (n / 8).toNat (by rw [hx.len]; omega)
      go_wp2
      go_region
      go_wp2
      go_ret
      refine ⟨⟨_, rfl, ?_⟩, hb.drew.drew.drew⟩
      rw [beq_iff_eq]
      exact ⟨fun h => ⟨HB.out.1 trivial, Or.inr h⟩, fun h => h.2.resolve_left hz⟩
end Go.Proofs.Qxb6621689a
