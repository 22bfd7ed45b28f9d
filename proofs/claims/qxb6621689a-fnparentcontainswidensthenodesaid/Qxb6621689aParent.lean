import Derived.Test.Qxb6621689aContains
namespace Go.Proofs.Qxb6621689a
open Go.RowKit
set_option linter.unusedSimpArgs false
set_option linter.unusedVariables false

/-- Bit 'pos' is cleared. -/
def clrB (xs : List Int) (pos : Int) : List Int := xs.set (pos / 8).toNat (bits .andNot .u8 (xs[(pos / 8).toNat]?.getD 0) (128 / 2 ^ (pos % 8).toNat))
/-- The bits of the parent of a node of n + 2 bits, behind j rounds. -/
def paL (xs : List Int) (n : Int) (j : Nat) : List Int :=
  match j with
  | 0 => xs
  | 1 => clrB xs n
  | _ => clrB (clrB xs n) (n + 1)

theorem andNot_bd (x y : Int) (hx : 0 ≤ x) (hx2 : x ≤ 255) (hy : 0 ≤ y) (hy2 : y ≤ 255) : 0 ≤ bits .andNot .u8 x y ∧ bits .andNot .u8 x y ≤ 255 := by
  rw [u8_andNot x y hx (by omega) hy (by omega)]
  have : x.toNat &&& (255 - y.toNat) < 2 ^ 8 := Nat.and_lt_two_pow _ (by omega)
  omega
theorem Bytes16.clrB {xs : List Int} (h : Bytes16 xs) (pos : Int) : Bytes16 (clrB xs pos) := by
  have b := andNot_bd _ _ (h.at (pos / 8).toNat).1 (h.at (pos / 8).toNat).2 (sh_bd (pos % 8).toNat).1 (sh_bd (pos % 8).toNat).2
  exact h.put _ _ b.1 b.2
theorem Bytes16.paL {xs : List Int} (h : Bytes16 xs) (n : Int) (j : Nat) : Bytes16 (paL xs n j) := by
  unfold Qxb6621689a.paL
  split
  · exact h
  · exact h.clrB _
  · exact (h.clrB _).clrB _
theorem paL_1 (xs : List Int) (n : Int) : paL xs n 1 = clrB (paL xs n 0) n := rfl
theorem paL_2 (xs : List Int) (n : Int) : paL xs n 2 = clrB (paL xs n 1) (n + 1) := rfl
theorem there_below {w w' : World} (h : Below w.heap.size w w') {b n : Nat} (ht : w.there b 0 n) (hb : b < w.heap.size) : w'.there b 0 n := fun j hj => by
  rw [h.cell (p := ⟨b, 0 + j, none⟩) hb, h.frozen (p := ⟨b, 0 + j, none⟩) hb]
  exact ht j hj

theorem size_setCells (b : Nat) : ∀ (vs : List Value) (o : Nat) (w : World), (w.setCells b o vs).heap.size = w.heap.size
  | [], _, _ => rfl
  | v :: r, o, w => by rw [World.setCells, size_setCells b r]; simp [World.setCell]

/-- What the last statement of Parent finds, and keeps but for the variable of the result. -/
structure Found (w : World) (b0 b1 b2 : Nat) (xs ys : List Int) (n m : Int) (w' : World) : Prop where
  bel : Below w.heap.size w w'
  old : w'.rangeAt b0 0 (pl xs n)
  new : w'.rangeAt b2 0 (pl ys m)
  res : w'.there b1 0 17
  top : b0 < w'.heap.size ∧ b1 < w'.heap.size ∧ b2 < w'.heap.size
theorem Found.behind {w : World} {b0 b1 b2 : Nat} {xs ys : List Int} {n m : Int} {w1 w2 : World} (h : Found w b0 b1 b2 xs ys n m w1) (hc : Below w1.heap.size w1 w2) : Found w b0 b1 b2 xs ys n m w2 :=
  ⟨h.bel.trans (hc.mono h.bel.size), range_below hc h.old h.top.1, range_below hc h.new h.top.2.2, there_below hc h.res h.top.2.1, by have := hc.size; have := h.top; omega⟩

set_option maxHeartbeats 2000000 in
theorem parent_any (xs : List Int) (n : Int) (w : World) (hx : Bytes16 xs) (h0 : 0 ≤ n) (h1 : n ≤ 126) (h2 : n % 2 = 0) :
    Calls Try.prog 9 #[.agg (pl xs (n + 2)).toArray] w fun e w' => e = .returned (.tuple #[.agg (pl (paL xs n 2) n).toArray, .int .i64 (2 * bitI xs n + bitI xs (n + 1))]) ∧ Below w.heap.size w w' := by
  have hj : (Try.prog.info? 26).map (·.size) = some (pl xs (n + 2)).toArray.size := by have := info26 hx (n + 2); simpa using this
  have hj' := info26 hx (n + 2)
  have h17 : (pl xs (n + 2)).toArray.size = 17 := by simp [pl_len, hx.len]
  have hr := range_new w (pl xs (n + 2)) 26
  have ho : (pl xs (n + 2)).toArray.all (·.oneCell') = true := all_oneCell_toArray (pl_one xs (n + 2))
  have hq : ∀ Z : Array Value, Z.size = 17 → ((((w.alloc (.cells (pl xs (n + 2)).toArray 26)).alloc (.cells Z 26)).alloc (.cells Z 26)).setCells (w.heap.size + 1 + 1) 0 (pl xs (n + 2))).cell? ⟨w.heap.size + 1 + 1, 16, none⟩ = some (.int .i64 (n + 2)) := fun Z hZ =>
    range_len hx.len (World.rangeAt_setCells_same _ _ _ _ (there_next2 _ _ _ _ _ _ (by rw [hZ, pl_len, hx.len])))
  have hf : ∀ Z : Array Value, Z.size = 17 → ((((w.alloc (.cells (pl xs (n + 2)).toArray 26)).alloc (.cells Z 26)).alloc (.cells Z 26)).setCells (w.heap.size + 1 + 1) 0 (pl xs (n + 2))).frozen? ⟨w.heap.size + 1 + 1, 16, none⟩ = false := fun Z hZ =>
    (World.there_setCells (there_next2 _ _ _ _ _ _ hZ) _ _ _ 16 (by omega)).2
  go_enter Try.func9, Try.ntmps9
  go_wp2_with (first | (refine wpList_load_mid rfl 26 _ rfl _ 0 rfl _ _ (by exact World.rangeAt_alloc hr _) Try.underlying26 rfl hj' ?_) | (refine wpList_store_mid rfl 26 _ _ rfl _ 0 _ rfl rfl (by rw [h17]; exact there_next2 _ _ _ _ _ 17 rfl) hj ho ?_))
  clear hq hf
  generalize hz : (#[Value.int IntKind.u8 0, Value.int IntKind.u8 0, Value.int IntKind.u8 0, Value.int IntKind.u8 0, Value.int IntKind.u8 0, Value.int IntKind.u8 0, Value.int IntKind.u8 0, Value.int IntKind.u8 0, Value.int IntKind.u8 0, Value.int IntKind.u8 0, Value.int IntKind.u8 0, Value.int IntKind.u8 0, Value.int IntKind.u8 0, Value.int IntKind.u8 0, Value.int IntKind.u8 0, Value.int IntKind.u8 0, Value.int IntKind.i64 0] : Array Value) = Z
  have hZ : Z.size = 17 := by rw [← hz]; rfl
  clear hz
  have hw : Below w.heap.size w ((((w.alloc (.cells (pl xs (n + 2)).toArray 26)).alloc (.cells Z 26)).alloc (.cells Z 26)).setCells (w.heap.size + 1 + 1) 0 (pl xs (n + 2))) := by
    exact below_setCells _ (by omega) _ _ _ ((((Below.refl _ _).alloc (Nat.le_refl _) _).alloc (by simp) _).alloc (by simp; omega) _)
  have hr0 : ((((w.alloc (.cells (pl xs (n + 2)).toArray 26)).alloc (.cells Z 26)).alloc (.cells Z 26)).setCells (w.heap.size + 1 + 1) 0 (pl xs (n + 2))).rangeAt w.heap.size 0 (pl xs (n + 2)) :=
    World.rangeAt_setCells_apart (World.rangeAt_alloc (World.rangeAt_alloc hr _) _) _ _ _ (by omega)
  have hr2 : ((((w.alloc (.cells (pl xs (n + 2)).toArray 26)).alloc (.cells Z 26)).alloc (.cells Z 26)).setCells (w.heap.size + 1 + 1) 0 (pl xs (n + 2))).rangeAt (w.heap.size + 1 + 1) 0 (pl xs (n + 2)) :=
    World.rangeAt_setCells_same _ _ _ _ (there_next2 _ _ _ _ _ _ (by rw [hZ, pl_len, hx.len]))
  have ht1 : ((((w.alloc (.cells (pl xs (n + 2)).toArray 26)).alloc (.cells Z 26)).alloc (.cells Z 26)).setCells (w.heap.size + 1 + 1) 0 (pl xs (n + 2))).there (w.heap.size + 1) 0 17 :=
    World.there_setCells (World.there_alloc (there_next _ _ _ _ _ hZ) _) _ _ _
  have ht2 : ((((w.alloc (.cells (pl xs (n + 2)).toArray 26)).alloc (.cells Z 26)).alloc (.cells Z 26)).setCells (w.heap.size + 1 + 1) 0 (pl xs (n + 2))).there (w.heap.size + 1 + 1) 0 17 :=
    World.there_setCells (there_next2 _ _ _ _ _ _ hZ) _ _ _
  generalize (((w.alloc (.cells (pl xs (n + 2)).toArray 26)).alloc (.cells Z 26)).alloc (.cells Z 26)).setCells (w.heap.size + 1 + 1) 0 (pl xs (n + 2)) = w0 at *
  clear hr hj hj' h17 ho hZ
  have hb0 : w.heap.size + 1 + 1 ≠ w.heap.size := by omega
  have hb1 : w.heap.size + 1 + 1 ≠ w.heap.size + 1 := by omega
  have hb01 : w.heap.size ≠ w.heap.size + 1 := by omega
  have hge : w.heap.size ≤ w.heap.size + 1 := by omega
  have hge2 : w.heap.size ≤ w.heap.size + 1 + 1 := by omega
  generalize w.heap.size + 1 + 1 = b2 at *
  generalize w.heap.size + 1 = b1 at *
  go_loopw [5] (fun j wr => ∃ k : Nat, (k = 0 ∧ j = .int .i64 n ∨ k = 1 ∧ j = .int .i64 (n + 1) ∨ k = 2 ∧ j = .int .i64 (n + 2)) ∧ Below w.heap.size w wr ∧ wr.rangeAt w.heap.size 0 (pl xs (n + 2)) ∧ wr.rangeAt b2 0 (pl (paL xs n k) n) ∧ wr.there b1 0 17 ∧ wr.there b2 0 17) (fun j _ => (n + 2 - intOf j).toNat)
  case atStart => exact ⟨0, Or.inl ⟨rfl, rfl⟩, hw.setCell hge2 _, range_far hr0 _ _ hb0, range_putLen hx.len hr2 n, there_put ht1 _ _, there_put ht2 _ _⟩
  case round =>
    clear hw hr0 hr2 ht1 ht2
    obtain ⟨k, hk, hw, hr0, hr2, ht1, ht2⟩ := hrel
    have hl := range_len hx.len hr0
    rcases hk with ⟨rfl, rfl⟩ | ⟨rfl, rfl⟩ | ⟨rfl, rfl⟩
    · have hc := range_byte (range_bits hr2) (n / 8).toNat (by rw [(hx.paL n 0).len]; omega)
      have hf := (ht2 (n / 8).toNat (by omega)).2
      rw [Nat.zero_add] at hf
      go_wp2
      go_region
      go_wp2
      go_roundw
      case rel =>
        refine ⟨1, Or.inr (Or.inl ⟨rfl, rfl⟩), (hw.drew).setCell hge2 _, range_far hr0 _ _ hb0, ?_, there_put ht1 _ _, there_put ht2 _ _⟩
        rw [paL_1]
        exact range_put hr2 _ _ (by rw [(hx.paL n 0).len]; omega)
      case measure => simp [intOf]; omega
    · have hc := range_byte (range_bits hr2) ((n + 1) / 8).toNat (by rw [(hx.paL n 1).len]; omega)
      have hf := (ht2 ((n + 1) / 8).toNat (by omega)).2
      rw [Nat.zero_add] at hf
      go_wp2
      go_region
      go_wp2
      go_roundw
      case rel =>
        refine ⟨2, Or.inr (Or.inr ⟨by rfl, ?_⟩), (hw.drew).setCell hge2 _, range_far hr0 _ _ hb0, ?_, there_put ht1 _ _, there_put ht2 _ _⟩
        · congr 1; omega
        · rw [paL_2]
          exact range_put hr2 _ _ (by rw [(hx.paL n 1).len]; omega)
      case measure => simp [intOf]; omega
    · have hx2 := hx.paL n 2
      generalize hy : paL xs n 2 = ys at hx2 hr2
      have HY : Hid (paL xs n 2 = ys) := hy
      clear hy
      have hi2 := info26 hx2 n
      have hj2 : (Try.prog.info? 26).map (·.size) = some (pl ys n).toArray.size := by simpa using hi2
      have ho2 : (pl ys n).toArray.all (·.oneCell') = true := all_oneCell_toArray (pl_one ys n)
      have hF : Found w w.heap.size b1 b2 xs ys (n + 2) n wr := ⟨hw, hr0, hr2, ht1, World.block_lt_of_cell? _ _ hl, by
        obtain ⟨u, hu⟩ := Option.isSome_iff_exists.1 (ht1 0 (by omega)).1
        exact World.block_lt_of_cell? _ _ hu, World.block_lt_of_cell? _ _ (range_len hx2.len hr2)⟩
      have en : n / 2 * 2 = n := by omega
      have HN : Hid (n / 2 * 2 = n) := en
      clear en hw hr0 hr2 ht1 ht2
      go_wp2
      clear hl
      refine wp_region_held_drew (S := Found w w.heap.size b1 b2 xs ys (n + 2) n) (by kernel_rfl) (hF.behind (Below.refl _ _).drew) (fun hHeld => ?_)
      refine wpAnyH_take (i := 0) (v := .agg (pl ys n).toArray) rfl (by kernel_rfl) (by kernel_rfl) (by kernel_rfl) (fun _ _ _ h => h) (yieldsIf_load_mid (by rfl) 26 _ rfl _ 0 rfl (pl ys n) _ (fun _ h => h.new) Try.underlying26 rfl hi2) hHeld ?_
      refine wpAnyH_take (i := 2) (v := .agg (pl ys n).toArray) rfl (by kernel_rfl) (by kernel_rfl) (by kernel_rfl) (fun _ _ _ h => h) (yieldsIf_load_mid (by rfl) 26 _ rfl _ 0 rfl (pl ys n) _ (fun _ h => h.new) Try.underlying26 rfl hi2) hHeld ?_
      refine wpAnyH_take (i := 1) (v := .pointer (some ⟨w.heap.size, 0, none⟩)) rfl (by kernel_rfl) (by kernel_rfl) (by kernel_rfl) (fun _ _ _ h => h) (Or.inl ⟨by rfl, fun _ _ => by go_simp⟩) hHeld ?_
      try simp only [Act.put, List.getElem_toArray, List.getElem_cons_zero, List.getElem_cons_succ, List.setIfInBounds_toArray, List.set_cons_zero, List.set_cons_succ]
      refine wpAnyH_ready (rs := [3]) (by kernel_rfl) (by simp) ?_
      refine AllReadyH.cons rfl (fun K hK => ?_) AllReadyH.nil
      go_simp
      refine (depth_any ys n _ hx2 h0 (by omega)).mono ?_
      rintro e w1 ⟨rfl, hc⟩
      refine hK.out _ _ (hHeld.behind hc) (fun hHeld => ?_)
      clear hK K hc
      try simp only [Act.put, List.getElem_toArray, List.getElem_cons_zero, List.getElem_cons_succ, List.setIfInBounds_toArray, List.set_cons_zero, List.set_cons_succ]
      refine wpAnyH_ready (rs := [4]) (by kernel_rfl) (by simp) ?_
      refine AllReadyH.cons rfl (fun K hK => ?_) AllReadyH.nil
      go_simp
      have hix := index_any xs (n / 2) w.heap.size w1 hx (by omega) (by omega) (range_bits hHeld.old)
      rw [HN.out] at hix
      refine hix.mono ?_
      clear hix
      rintro e w2 ⟨rfl, rfl⟩
      refine hK.out _ _ hHeld (fun hHeld => ?_)
      clear hK K
      try simp only [Act.put, List.getElem_toArray, List.getElem_cons_zero, List.getElem_cons_succ, List.setIfInBounds_toArray, List.set_cons_zero, List.set_cons_succ]
      refine wpAnyH_ready (rs := [5]) (by kernel_rfl) (by simp) ?_
      refine AllReadyH.cons rfl (fun K hK => ?_) AllReadyH.nil
      rw [if_pos (by rfl)]
      have hth : w2.there b1 0 (pl ys n).toArray.size := by
        have e17 : (pl ys n).toArray.size = 17 := by simp [pl_len, hx2.len]
        rw [e17]; exact hHeld.res
      refine wp_store_mid 26 _ _ rfl b1 0 (pl ys n).toArray rfl rfl hth hj2 ho2 ?_
      refine hK.out _ _ ⟨below_setCells _ hge _ _ _ hHeld.bel, World.rangeAt_setCells_apart hHeld.old _ _ _ (Or.inl hb01), World.rangeAt_setCells_apart hHeld.new _ _ _ (Or.inl hb1), World.there_setCells hHeld.res _ _ _, by rw [size_setCells]; exact hHeld.top⟩ (fun hHeld' => ?_)
      clear hK K
      try simp only [Act.put, List.getElem_toArray, List.getElem_cons_zero, List.getElem_cons_succ, List.setIfInBounds_toArray, List.set_cons_zero, List.set_cons_succ]
      refine wpAnyH_take (i := 6) (v := .int .i64 (2 * bitI xs n + bitI xs (n + 1))) rfl (by kernel_rfl) (by kernel_rfl) (by kernel_rfl) (fun _ _ _ h => h) (Or.inl ⟨by rfl, fun _ _ => by go_simp⟩) hHeld' ?_
      try simp only [Act.put, List.getElem_toArray, List.getElem_cons_zero, List.getElem_cons_succ, List.setIfInBounds_toArray, List.set_cons_zero, List.set_cons_succ]
      refine wpAnyH_done (by kernel_rfl) ?_ _
      go_wp2
      refine bodyPost_ret (v := .tuple #[.agg (pl ys n).toArray, .int .i64 (2 * bitI xs n + bitI xs (n + 1))]) ?_ rfl ⟨by rw [HY.out], hHeld'.bel⟩
      rw [results_cell_tmp Try.results9]
      have hrr : (w2.setCells b1 0 (pl ys n)).rangeAt b1 0 (pl ys n) := World.rangeAt_setCells_same _ _ _ _ (by simpa using hth)
      have hld := run_loadVar_mid (P := Try.prog) (w2.setCells b1 0 (pl ys n)) b1 0 26 (pl ys n) _ hrr Try.underlying26 rfl hi2
      show (Result.ok (⟨b1, 0, none⟩ : Addr) (w2.setCells b1 0 (pl ys n))).andThen _ = _
      simp only [Result.andThen_ok]
      rw [hld]
      rfl
end Go.Proofs.Qxb6621689a
