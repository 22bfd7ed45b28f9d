import Derived.Test.Qxb6621689aSmall
namespace Go.Proofs.Qxb6621689a
open Go.RowKit
set_option linter.unusedSimpArgs false
set_option linter.unusedVariables false

/-- Bit 'pos' is set. -/
def setB (xs : List Int) (pos : Int) : List Int := xs.set (pos / 8).toNat (bits .or .u8 (xs[(pos / 8).toNat]?.getD 0) (128 / 2 ^ (pos % 8).toNat))
/-- The bits of child i, behind j rounds. -/
def chL (xs : List Int) (n i : Int) (j : Nat) : List Int :=
  match j with
  | 0 => xs
  | 1 => if i / 2 % 2 = 1 then setB xs n else xs
  | _ => if i % 2 = 1 then setB (if i / 2 % 2 = 1 then setB xs n else xs) (n + 1) else (if i / 2 % 2 = 1 then setB xs n else xs)

theorem or_bd (x y : Int) (hx : 0 ≤ x) (hx2 : x ≤ 255) (hy : 0 ≤ y) (hy2 : y ≤ 255) : 0 ≤ bits .or .u8 x y ∧ bits .or .u8 x y ≤ 255 := by
  rw [u8_or x y hx (by omega) hy (by omega)]
  have : x.toNat ||| y.toNat < 2 ^ 8 := Nat.or_lt_two_pow (by omega) (by omega)
  omega
theorem sh_bd (m : Nat) : 0 ≤ (128 : Int) / 2 ^ m ∧ (128 : Int) / 2 ^ m ≤ 255 := by
  have := div_pow_bd 128 m (by omega) (by omega)
  omega
theorem Bytes16.put {xs : List Int} (h : Bytes16 xs) (q : Nat) (v : Int) (h0 : 0 ≤ v) (h1 : v ≤ 255) : Bytes16 (xs.set q v) :=
  ⟨by simp [h.len], fun n hn => by
    rcases List.mem_or_eq_of_mem_set hn with hn | rfl
    · exact h.bd n hn
    · exact ⟨h0, h1⟩⟩
theorem Bytes16.setB {xs : List Int} (h : Bytes16 xs) (pos : Int) : Bytes16 (setB xs pos) := by
  have b := or_bd _ _ (h.at (pos / 8).toNat).1 (h.at (pos / 8).toNat).2 (sh_bd (pos % 8).toNat).1 (sh_bd (pos % 8).toNat).2
  exact h.put _ _ b.1 b.2
theorem Bytes16.chL {xs : List Int} (h : Bytes16 xs) (n i : Int) (j : Nat) : Bytes16 (chL xs n i j) := by
  unfold Qxb6621689a.chL
  split
  · exact h
  · split
    · exact h.setB _
    · exact h
  · split <;> split <;> first | exact h | exact h.setB _ | exact (h.setB _).setB _

theorem range_put {w : World} {b : Nat} {xs : List Int} {n : Int} (h : w.rangeAt b 0 (pl xs n)) (q : Nat) (v : Int) (hq : q < xs.length) : (w.setCell ⟨b, q, none⟩ (.int .u8 v)).rangeAt b 0 (pl (xs.set q v) n) := fun j u hu => by
  rw [Nat.zero_add]
  by_cases e : j = q
  · subst e
    have hc := h j _ (pl_get xs n j hq)
    rw [Nat.zero_add] at hc
    rw [World.cell?_setCell_same _ _ _ hc]
    rw [pl_get _ n j (by simpa using hq)] at hu
    simpa [hq] using hu
  · rw [World.cell?_setCell_other _ _ _ _ (by intro h; cases h; exact e rfl)]
    have hl : j < (pl xs n).length := by have := (List.getElem?_eq_some_iff.1 hu).1; simpa [pl_len] using this
    have : (pl (xs.set q v) n)[j]? = (pl xs n)[j]? := by
      rw [pl_len] at hl
      by_cases hj : j < xs.length
      · rw [pl_get _ n j hj, pl_get _ n j (by simpa using hj), List.getElem?_set_ne (by omega)]
      · have : j = xs.length := by omega
        subst this
        simp [pl]
    rw [this] at hu
    have := h j u hu
    rwa [Nat.zero_add] at this
theorem range_far {w : World} {b : Nat} {cs : List Value} (h : w.rangeAt b 0 cs) (a : Addr) (v : Value) (hb : a.block ≠ b) : (w.setCell a v).rangeAt b 0 cs := fun j u hu => by
  rw [World.cell?_setCell_other _ _ _ _ (by intro h; rw [h] at hb; exact hb rfl)]
  exact h j u hu
theorem there_put {w : World} {b n : Nat} (h : w.there b 0 n) (a : Addr) (v : Value) : (w.setCell a v).there b 0 n := fun j hj => by
  obtain ⟨h1, h2⟩ := h j hj
  refine ⟨?_, by rw [World.frozen?_setCell]; exact h2⟩
  have := World.isSome_setCells a.block [v] a.off w ⟨b, 0 + j, none⟩ h1
  obtain ⟨u, hu⟩ := Option.isSome_iff_exists.1 h1
  by_cases e : a = ⟨b, 0 + j, none⟩
  · subst e; rw [World.cell?_setCell_same _ _ _ hu]; rfl
  · rw [World.cell?_setCell_other _ _ _ _ e, hu]; rfl

theorem there_next2 (w : World) (o o' : Obj) (cs : Array Value) (t : TypeId) (n : Nat) (hn : cs.size = n) : (((w.alloc o).alloc o').alloc (.cells cs t)).there (w.heap.size + 1 + 1) 0 n := by
  have h := there_next (w.alloc o) o' cs t n hn
  have e : (w.alloc o).heap.size + 1 = w.heap.size + 1 + 1 := by simp
  rw [e] at h
  exact h

theorem bit_hi {i : Int} (h0 : 0 ≤ i) (h1 : i ≤ 3) : (bits .and .i64 (i / 2) 1 != 0) = decide (i / 2 % 2 = 1) := by
  have : i = 0 ∨ i = 1 ∨ i = 2 ∨ i = 3 := by omega
  rcases this with rfl | rfl | rfl | rfl <;> rfl
theorem bit_lo {i : Int} (h0 : 0 ≤ i) (h1 : i ≤ 3) : (bits .and .i64 i 1 != 0) = decide (i % 2 = 1) := by
  have : i = 0 ∨ i = 1 ∨ i = 2 ∨ i = 3 := by omega
  rcases this with rfl | rfl | rfl | rfl <;> rfl
theorem chL_1 (xs : List Int) (n i : Int) : chL xs n i 1 = if i / 2 % 2 = 1 then setB (chL xs n i 0) n else chL xs n i 0 := rfl
theorem chL_2 (xs : List Int) (n i : Int) : chL xs n i 2 = if i % 2 = 1 then setB (chL xs n i 1) (n + 1) else chL xs n i 1 := rfl
theorem range_putLen {w : World} {b : Nat} {xs : List Int} {n : Int} (hx : xs.length = 16) (h : w.rangeAt b 0 (pl xs n)) (m : Int) : (w.setCell ⟨b, 16, none⟩ (.int .i64 m)).rangeAt b 0 (pl xs m) := fun j u hu => by
  rw [Nat.zero_add]
  by_cases e : j = 16
  · subst e
    rw [World.cell?_setCell_same _ _ _ (range_len hx h)]
    rw [pl_last _ _ hx] at hu
    exact hu
  · rw [World.cell?_setCell_other _ _ _ _ (by intro h; cases h; exact e rfl)]
    have hl : j < (pl xs m).length := (List.getElem?_eq_some_iff.1 hu).1
    rw [pl_len] at hl
    have hj : j < xs.length := by omega
    rw [pl_get _ m j hj] at hu
    have := h j u (by rw [pl_get _ n j hj]; exact hu)
    rwa [Nat.zero_add] at this

set_option maxHeartbeats 2000000 in
theorem child_any (xs : List Int) (n i : Int) (w : World) (hx : Bytes16 xs) (h0 : 0 ≤ n) (h1 : n ≤ 126) (hi0 : 0 ≤ i) (hi1 : i ≤ 3) :
    Calls Try.prog 12 #[.agg (pl xs n).toArray, .int .i64 i] w fun e w' => e = .returned (.agg (pl (chL xs n i 2) (n + 2)).toArray) ∧ Below w.heap.size w w' := by
  have hj : (Try.prog.info? 26).map (·.size) = some (pl xs n).toArray.size := by have := info26 hx n; simpa using this
  have hj' := info26 hx n
  have h17 : (pl xs n).toArray.size = 17 := by simp [pl_len, hx.len]
  have hr := range_new w (pl xs n) 26
  have ho : (pl xs n).toArray.all (·.oneCell') = true := all_oneCell_toArray (pl_one xs n)
  go_enter Try.func12, Try.ntmps12
  go_wp2_with (first | (refine wpList_load_mid rfl 26 _ rfl _ 0 rfl _ _ (by exact World.rangeAt_alloc hr _) Try.underlying26 rfl hj' ?_) | (refine wpList_store_mid rfl 26 _ _ rfl _ 0 _ rfl rfl (by rw [h17]; exact there_next2 _ _ _ _ _ 17 rfl) hj ho ?_))
  generalize hz : (#[Value.int IntKind.u8 0, Value.int IntKind.u8 0, Value.int IntKind.u8 0, Value.int IntKind.u8 0, Value.int IntKind.u8 0, Value.int IntKind.u8 0, Value.int IntKind.u8 0, Value.int IntKind.u8 0, Value.int IntKind.u8 0, Value.int IntKind.u8 0, Value.int IntKind.u8 0, Value.int IntKind.u8 0, Value.int IntKind.u8 0, Value.int IntKind.u8 0, Value.int IntKind.u8 0, Value.int IntKind.u8 0, Value.int IntKind.i64 0] : Array Value) = Z
  have hZ : Z.size = 17 := by rw [← hz]; rfl
  clear hz
  have hw : Below w.heap.size w ((((w.alloc (.cells (pl xs n).toArray 26)).alloc (.cells Z 26)).alloc (.cells Z 26)).setCells (w.heap.size + 1 + 1) 0 (pl xs n)) := by
    exact below_setCells _ (by omega) _ _ _ ((((Below.refl _ _).alloc (Nat.le_refl _) _).alloc (by simp) _).alloc (by simp; omega) _)
  have hr0 : ((((w.alloc (.cells (pl xs n).toArray 26)).alloc (.cells Z 26)).alloc (.cells Z 26)).setCells (w.heap.size + 1 + 1) 0 (pl xs n)).rangeAt w.heap.size 0 (pl xs n) :=
    World.rangeAt_setCells_apart (World.rangeAt_alloc (World.rangeAt_alloc hr _) _) _ _ _ (by omega)
  have hr2 : ((((w.alloc (.cells (pl xs n).toArray 26)).alloc (.cells Z 26)).alloc (.cells Z 26)).setCells (w.heap.size + 1 + 1) 0 (pl xs n)).rangeAt (w.heap.size + 1 + 1) 0 (pl xs n) :=
    World.rangeAt_setCells_same _ _ _ _ (there_next2 _ _ _ _ _ _ (by rw [hZ, pl_len, hx.len]))
  have ht1 : ((((w.alloc (.cells (pl xs n).toArray 26)).alloc (.cells Z 26)).alloc (.cells Z 26)).setCells (w.heap.size + 1 + 1) 0 (pl xs n)).there (w.heap.size + 1) 0 17 :=
    World.there_setCells (World.there_alloc (there_next _ _ _ _ _ hZ) _) _ _ _
  have ht2 : ((((w.alloc (.cells (pl xs n).toArray 26)).alloc (.cells Z 26)).alloc (.cells Z 26)).setCells (w.heap.size + 1 + 1) 0 (pl xs n)).there (w.heap.size + 1 + 1) 0 17 :=
    World.there_setCells (there_next2 _ _ _ _ _ _ hZ) _ _ _
  generalize (((w.alloc (.cells (pl xs n).toArray 26)).alloc (.cells Z 26)).alloc (.cells Z 26)).setCells (w.heap.size + 1 + 1) 0 (pl xs n) = w0 at *
  clear hr hj hj' h17 ho hZ
  have hb0 : w.heap.size + 1 + 1 ≠ w.heap.size := by omega
  have hb1 : w.heap.size + 1 + 1 ≠ w.heap.size + 1 := by omega
  have hge : w.heap.size ≤ w.heap.size + 1 := by omega
  have hge2 : w.heap.size ≤ w.heap.size + 1 + 1 := by omega
  generalize w.heap.size + 1 + 1 = b2 at *
  generalize w.heap.size + 1 = b1 at *
  go_loopw [9] (fun j wr => ∃ k : Nat, (k = 0 ∧ j = .int .i64 0 ∨ k = 1 ∧ j = .int .i64 1 ∨ k = 2 ∧ j = .int .i64 2) ∧ Below w.heap.size w wr ∧ wr.rangeAt w.heap.size 0 (pl xs n) ∧ wr.rangeAt b2 0 (pl (chL xs n i k) n) ∧ wr.there b1 0 17 ∧ wr.there b2 0 17) (fun j _ => (2 - intOf j).toNat)
  case atStart => exact ⟨0, Or.inl ⟨rfl, rfl⟩, hw, hr0, hr2, ht1, ht2⟩
  case round =>
    clear hw hr0 hr2 ht1 ht2
    obtain ⟨k, hk, hw, hr0, hr2, ht1, ht2⟩ := hrel
    have hl := range_len hx.len hr0
    rcases hk with ⟨rfl, rfl⟩ | ⟨rfl, rfl⟩ | ⟨rfl, rfl⟩
    · have hc := range_byte (range_bits hr2) (n / 8).toNat (by rw [(hx.chL n i 0).len]; omega)
      have hf := (ht2 (n / 8).toNat (by omega)).2
      rw [Nat.zero_add] at hf
      have ht := bit_hi hi0 hi1
      by_cases c : i / 2 % 2 = 1
      · rw [decide_eq_true c] at ht
        have HE : Hid (chL xs n i 1 = setB (chL xs n i 0) n) := by rw [chL_1, if_pos c]; rfl
        clear c
        go_wp2
        go_region
        go_wp2
        go_roundw
        case rel =>
          refine ⟨1, Or.inr (Or.inl ⟨rfl, rfl⟩), (hw.drew).setCell hge2 _, range_far hr0 _ _ hb0, ?_, there_put ht1 _ _, there_put ht2 _ _⟩
          rw [HE.out]
          exact range_put hr2 _ _ (by rw [(hx.chL n i 0).len]; omega)
        case measure => simp [intOf]
      · rw [decide_eq_false c] at ht
        have HE : Hid (chL xs n i 1 = chL xs n i 0) := by rw [chL_1, if_neg c]; rfl
        clear c
        go_wp2
        go_roundw
        case rel =>
          refine ⟨1, Or.inr (Or.inl ⟨rfl, rfl⟩), hw, hr0, ?_, ht1, ht2⟩
          rw [HE.out]
          exact hr2
        case measure => simp [intOf]
    · have hc := range_byte (range_bits hr2) ((n + 1) / 8).toNat (by rw [(hx.chL n i 1).len]; omega)
      have hf := (ht2 ((n + 1) / 8).toNat (by omega)).2
      rw [Nat.zero_add] at hf
      have ht := bit_lo hi0 hi1
      by_cases c : i % 2 = 1
      · rw [decide_eq_true c] at ht
        have HE : Hid (chL xs n i 2 = setB (chL xs n i 1) (n + 1)) := by rw [chL_2, if_pos c]; rfl
        clear c
        go_wp2
        go_region
        go_wp2
        go_roundw
        case rel =>
          refine ⟨2, Or.inr (Or.inr ⟨rfl, rfl⟩), (hw.drew).setCell hge2 _, range_far hr0 _ _ hb0, ?_, there_put ht1 _ _, there_put ht2 _ _⟩
          rw [HE.out]
          exact range_put hr2 _ _ (by rw [(hx.chL n i 1).len]; omega)
        case measure => simp [intOf]
      · rw [decide_eq_false c] at ht
        have HE : Hid (chL xs n i 2 = chL xs n i 1) := by rw [chL_2, if_neg c]; rfl
        clear c
        go_wp2
        go_roundw
        case rel =>
          refine ⟨2, Or.inr (Or.inr ⟨rfl, rfl⟩), hw, hr0, ?_, ht1, ht2⟩
          rw [HE.out]
          exact hr2
        case measure => simp [intOf]
    · have hx2 := hx.chL n i 2
      generalize hy : chL xs n i 2 = ys at hx2 hr2
      have HY : Hid (chL xs n i 2 = ys) := hy
      clear hy
      have hc16 := range_len hx2.len hr2
      have hf16 := (ht2 16 (by omega)).2
      rw [Nat.zero_add] at hf16
      have hi2 := info26 hx2 (n + 2)
      have hj2 : (Try.prog.info? 26).map (·.size) = some (pl ys (n + 2)).toArray.size := by simpa using hi2
      have h17 : (pl ys (n + 2)).toArray.size = 17 := by simp [pl_len, hx2.len]
      have ho2 : (pl ys (n + 2)).toArray.all (·.oneCell') = true := all_oneCell_toArray (pl_one ys (n + 2))
      go_wp2_with (first | (refine wpList_load_mid rfl 26 _ rfl _ 0 rfl _ _ (by exact range_putLen hx2.len hr2 (n + 2)) Try.underlying26 rfl hi2 ?_) | (refine wpList_store_mid rfl 26 _ _ rfl _ 0 _ rfl rfl (by rw [h17]; exact there_put ht1 _ _) hj2 ho2 ?_))
      refine bodyPost_ret (v := .agg (pl ys (n + 2)).toArray) (results_mid Try.results12 _ _ b1 (pl ys (n + 2)) _ rfl (World.rangeAt_setCells_same _ _ _ _ (by rw [pl_len, hx2.len]; exact there_put ht1 _ _)) Try.underlying26 rfl hi2) rfl ⟨by rw [HY.out], ?_⟩
      exact below_setCells _ hge _ _ _ (hw.setCell hge2 _)
end Go.Proofs.Qxb6621689a
