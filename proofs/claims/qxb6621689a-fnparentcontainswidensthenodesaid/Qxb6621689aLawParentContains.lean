import Derived.Test.Qxb6621689aEql
import Derived.Test.Qxb6621689aOpen
import Derived.ProofKit
import Derived.OpenShut
import Derived.ChangeOld
import Derived.Below
namespace Go.Proofs.Qxb6621689a
open Go.ChangeShapes Go.WideShapes Go.ChangeAt Go.RowKit
set_option linter.unusedSimpArgs false
set_option linter.unusedVariables false

set_option maxHeartbeats 4000000 in
theorem law5_main (xs es : List Int) (n : Int) (w : World) (hx : Bytes16 xs) (he : Bytes16 es) (h0 : 0 ≤ n) (h1 : n ≤ 126) (h2 : n % 2 = 0) (ht : TailZ xs (n + 2)) :
    Calls Try.prog 5 #[.agg (bl xs).toArray, .int .i64 (n + 2), .agg (bl es).toArray] w fun e w' => e = .returned (.bool true) ∧ Below w.heap.size w w' := by
  have hi := info22 hx
  have hj := info22 he
  have hip := info26 hx (n + 2)
  have hjp : (Try.prog.info? 26).map (·.size) = some (pl xs (n + 2)).toArray.size := by simpa using hip
  have hop : (pl xs (n + 2)).toArray.all (·.oneCell') = true := all_oneCell_toArray (pl_one xs (n + 2))
  have hsp : (pl xs (n + 2)).toArray.size = 17 := by simp [pl_len, hx.len]
  have hr0 := World.rangeAt_alloc (range_new w (bl xs) 22) (.cells (bl es).toArray 22)
  have hr1 := range_new (w.alloc (.cells (bl xs).toArray 22)) (bl es) 22
  have esz : (w.alloc (.cells (bl xs).toArray 22)).heap.size = w.heap.size + 1 := by simp
  rw [esz] at hr1
  have hb : Below w.heap.size w ((w.alloc (.cells (bl xs).toArray 22)).alloc (.cells (bl es).toArray 22)) := ((Below.refl _ _).alloc (Nat.le_refl _) _).alloc (by simp) _
  have hsz : ((w.alloc (.cells (bl xs).toArray 22)).alloc (.cells (bl es).toArray 22)).heap.size = w.heap.size + 1 + 1 := by simp
  have g2 : (n % 2 != 0) = false := by simp [h2]
  have HX : Hid (n % 2 = 0) := h2
  clear h2 esz
  go_enter Try.func5, Try.ntmps5
  go_wp2_with (first | (refine wpList_load_mid rfl 22 _ rfl _ 0 rfl _ _ (by exact hr0) Try.underlying22 rfl hi ?_))
  generalize (w.alloc (.cells (bl xs).toArray 22)).alloc (.cells (bl es).toArray 22) = w0 at *
  refine (tail_yes xs (n + 2) w0 hx (by omega) (by omega) ht).mono ?_
  rintro e w1 ⟨rfl, hc⟩
  replace hb := hb.trans (hc.mono (by omega))
  replace hr0 := range_below hc hr0 (by omega)
  replace hr1 := range_below hc hr1 (by omega)
  have hs1 : w.heap.size + 1 + 1 ≤ w1.heap.size := by have := hc.size; omega
  clear hc hsz w0
  go_wp2_with (first | (refine wpList_load_mid rfl 22 _ rfl _ 0 rfl _ _ (by exact hr0) Try.underlying22 rfl hi ?_))
  refine (make_any xs (n + 2) w1 hx).mono ?_
  rintro e w2 ⟨rfl, hc⟩
  replace hb := hb.trans (hc.mono (by omega))
  replace hr0 := range_below hc hr0 (by omega)
  replace hr1 := range_below hc hr1 (by omega)
  have hs2 : w.heap.size + 1 + 1 ≤ w2.heap.size := by have := hc.size; omega
  clear hc hs1 w1
  go_wp2_with (first | (refine wpList_load_mid rfl 26 _ rfl _ 0 rfl _ _ (by exact lay_range w2 _ 26 (pl xs (n + 2)) (by rw [pl_len, hx.len]; rfl)) Try.underlying26 rfl hip ?_) | (refine wpList_store_mid rfl 26 _ _ rfl _ 0 _ rfl rfl (by rw [hsp]; exact there_new _ _ _) hjp hop ?_))
  refine (parent_any xs n _ hx h0 h1 HX.out).mono ?_
  rintro e w3 ⟨rfl, hc⟩
  have hc' : Below w2.heap.size w2 w3 := (lay_below w2 _ 26 (pl xs (n + 2))).trans (hc.mono (by rw [lay_size]; omega))
  have hrp : w3.rangeAt w2.heap.size 0 (pl xs (n + 2)) := range_below hc (lay_range w2 _ 26 _ (by rw [pl_len, hx.len]; rfl)) (by rw [lay_size]; omega)
  have hs3 : w2.heap.size + 1 ≤ w3.heap.size := by have := hc.size; rw [lay_size] at this; exact this
  replace hb := hb.trans (hc'.mono (by omega))
  replace hr0 := range_below hc' hr0 (by omega)
  replace hr1 := range_below hc' hr1 (by omega)
  clear hc hc'
  generalize w2.heap.size = bp at *
  clear w2
  have hxq := hx.paL n 2
  have htq := tail_paL hx h0 h1 ht
  have HC : Hid (chL (paL xs n 2) n (2 * bitI xs n + bitI xs (n + 1)) 2 = xs) := chL_paL hx h0 h1 ht
  have HM1 : Hid (Holds xs (n + 2) es ↔ Match xs es (n + 2)) := holds_iff hx he (by omega) (by omega) ht
  have HM2 : Hid (Holds (paL xs n 2) n es ↔ Match xs es n) := (holds_iff hxq he h0 (by omega) htq).trans (match_paL hx h0 h1)
  have hbd := idx_bd xs n
  unfold idx at hbd
  obtain ⟨hi0, hi1⟩ := hbd
  generalize paL xs n 2 = qs at *
  generalize 2 * bitI xs n + bitI xs (n + 1) = ix at *
  have hiq := info26 hxq n
  have hjq : (Try.prog.info? 26).map (·.size) = some (pl qs n).toArray.size := by simpa using hiq
  have hoq : (pl qs n).toArray.all (·.oneCell') = true := all_oneCell_toArray (pl_one qs n)
  have hsq : (pl qs n).toArray.size = 17 := by simp [pl_len, hxq.len]
  go_wp2_with (first | (refine wpList_load_mid rfl 22 _ rfl _ 0 rfl _ _ (by exact range_lay hr0 (by omega) _ _ _) Try.underlying22 rfl hi ?_) | (refine wpList_load_mid rfl 22 _ rfl _ 0 rfl _ _ (by exact range_lay hr1 (by omega) _ _ _) Try.underlying22 rfl hj ?_) | (refine wpList_store_mid rfl 26 _ _ rfl _ 0 _ rfl rfl (by rw [hsq]; exact there_new _ _ _) hjq hoq ?_))
  refine (match_any xs es (n + 2) _ hx he (by omega) (by omega)).mono ?_
  rintro e w4 ⟨⟨b, rfl, hbm⟩, hc⟩
  have HB : Hid (b = true ↔ Match xs es (n + 2)) := hbm
  clear hbm
  have hc' : Below w3.heap.size w3 w4 := (lay_below w3 _ 26 (pl qs n)).trans (hc.mono (by rw [lay_size]; omega))
  have hrq : w4.rangeAt w3.heap.size 0 (pl qs n) := range_below hc (lay_range w3 _ 26 _ (by rw [pl_len, hxq.len]; rfl)) (by rw [lay_size]; omega)
  have hs4 : w3.heap.size + 1 ≤ w4.heap.size := by have := hc.size; rw [lay_size] at this; exact this
  replace hb := hb.trans (hc'.mono (by omega))
  replace hr0 := range_below hc' hr0 (by omega)
  replace hr1 := range_below hc' hr1 (by omega)
  replace hrp := range_below hc' hrp (by omega)
  clear hc hc'
  generalize w3.heap.size = bq at *
  clear w3
  go_wp2_with (first | (refine wpList_load_mid rfl 22 _ rfl _ 0 rfl _ _ (by exact hr0) Try.underlying22 rfl hi ?_) | (refine wpList_load_mid rfl 22 _ rfl _ 0 rfl _ _ (by exact hr1) Try.underlying22 rfl hj ?_))
  refine (match_any xs es n _ hx he h0 (by omega)).mono ?_
  rintro e w5 ⟨⟨c, rfl, hbm⟩, hc⟩
  have HQ : Hid (c = true ↔ Match xs es n) := hbm
  clear hbm
  have hs5 : bq + 1 ≤ w5.heap.size := by have := hc.size; omega
  replace hb := hb.trans (hc.mono (by omega))
  replace hr1 := range_below hc hr1 (by omega)
  replace hrp := range_below hc hrp (by omega)
  replace hrq := range_below hc hrq (by omega)
  clear hc hs4 hr0 w4
  go_wp2
  refine wp_region_held_drew (S := Below w5.heap.size w5) (by kernel_rfl) (Below.refl _ _).drew (fun hHeld => ?_)
  refine wpAnyH_take (i := 0) (v := .agg (pl xs (n + 2)).toArray) rfl (by kernel_rfl) (by kernel_rfl) (by kernel_rfl) (fun _ _ _ h => h) (yieldsIf_load_mid (by rfl) 26 _ rfl _ 0 rfl (pl xs (n + 2)) _ (fun _ h => range_below h hrp (by omega)) Try.underlying26 rfl hip) hHeld ?_
  refine wpAnyH_take (i := 1) (v := .agg (bl es).toArray) rfl (by kernel_rfl) (by kernel_rfl) (by kernel_rfl) (fun _ _ _ h => h) (yieldsIf_load_mid (by rfl) 22 _ rfl _ 0 rfl (bl es) _ (fun _ h => range_below h hr1 (by omega)) Try.underlying22 rfl hj) hHeld ?_
  refine wpAnyH_take (i := 3) (v := .bool b) rfl (by kernel_rfl) (by kernel_rfl) (by kernel_rfl) (fun _ _ _ h => h) (Or.inl ⟨by rfl, fun _ _ => by go_simp⟩) hHeld ?_
  try simp only [Act.put, List.getElem_toArray, List.getElem_cons_zero, List.getElem_cons_succ, List.setIfInBounds_toArray, List.set_cons_zero, List.set_cons_succ]
  refine wpAnyH_ready (rs := [2]) (by kernel_rfl) (by simp) ?_
  refine AllReadyH.cons rfl (fun K hK => ?_) AllReadyH.nil
  go_simp
  refine (contains_any xs es (n + 2) _ hx he (by omega) (by omega)).mono ?_
  rintro e w6 ⟨⟨b', rfl, hbm⟩, hc⟩
  have hbb : b' = b := by rw [Bool.eq_iff_iff, hbm, HM1.out, HB.out]
  rw [hbb]
  clear hbb hbm
  refine hK.out _ _ (below_behind hHeld hc) (fun hHeld => ?_)
  clear hK K hc
  try simp only [Act.put, List.getElem_toArray, List.getElem_cons_zero, List.getElem_cons_succ, List.setIfInBounds_toArray, List.set_cons_zero, List.set_cons_succ]
  refine wpAnyH_take (i := 4) (v := .bool true) rfl (by kernel_rfl) (by kernel_rfl) (by kernel_rfl) (fun _ _ _ h => h) (Or.inl ⟨by rfl, fun _ _ => by go_simp⟩) hHeld ?_
  try simp only [Act.put, List.getElem_toArray, List.getElem_cons_zero, List.getElem_cons_succ, List.setIfInBounds_toArray, List.set_cons_zero, List.set_cons_succ]
  refine wpAnyH_take (i := 5) (v := .bool true) rfl (by kernel_rfl) (by kernel_rfl) (by kernel_rfl) (fun _ _ _ h => h) (Or.inl ⟨by rfl, fun _ _ => by go_simp⟩) hHeld ?_
  try simp only [Act.put, List.getElem_toArray, List.getElem_cons_zero, List.getElem_cons_succ, List.setIfInBounds_toArray, List.set_cons_zero, List.set_cons_succ]
  refine wpAnyH_take (i := 6) (v := .agg (pl qs n).toArray) rfl (by kernel_rfl) (by kernel_rfl) (by kernel_rfl) (fun _ _ _ h => h) (yieldsIf_load_mid (by rfl) 26 _ rfl _ 0 rfl (pl qs n) _ (fun _ h => range_below h hrq (by omega)) Try.underlying26 rfl hiq) hHeld ?_
  try simp only [Act.put, List.getElem_toArray, List.getElem_cons_zero, List.getElem_cons_succ, List.setIfInBounds_toArray, List.set_cons_zero, List.set_cons_succ]
  refine wpAnyH_take (i := 7) (v := .agg (bl es).toArray) rfl (by kernel_rfl) (by kernel_rfl) (by kernel_rfl) (fun _ _ _ h => h) (yieldsIf_load_mid (by rfl) 22 _ rfl _ 0 rfl (bl es) _ (fun _ h => range_below h hr1 (by omega)) Try.underlying22 rfl hj) hHeld ?_
  try simp only [Act.put, List.getElem_toArray, List.getElem_cons_zero, List.getElem_cons_succ, List.setIfInBounds_toArray, List.set_cons_zero, List.set_cons_succ]
  refine wpAnyH_take (i := 9) (v := .bool c) rfl (by kernel_rfl) (by kernel_rfl) (by kernel_rfl) (fun _ _ _ h => h) (Or.inl ⟨by rfl, fun _ _ => by go_simp⟩) hHeld ?_
  try simp only [Act.put, List.getElem_toArray, List.getElem_cons_zero, List.getElem_cons_succ, List.setIfInBounds_toArray, List.set_cons_zero, List.set_cons_succ]
  refine wpAnyH_ready (rs := [8]) (by kernel_rfl) (by simp) ?_
  refine AllReadyH.cons rfl (fun K hK => ?_) AllReadyH.nil
  go_simp
  refine (contains_any qs es n _ hxq he h0 (by omega)).mono ?_
  rintro e w7 ⟨⟨b', rfl, hbm⟩, hc⟩
  have hbb : b' = c := by rw [Bool.eq_iff_iff, hbm, HM2.out, HQ.out]
  rw [hbb]
  clear hbb hbm
  refine hK.out _ _ (below_behind hHeld hc) (fun hHeld => ?_)
  clear hK K hc
  try simp only [Act.put, List.getElem_toArray, List.getElem_cons_zero, List.getElem_cons_succ, List.setIfInBounds_toArray, List.set_cons_zero, List.set_cons_succ]
  refine wpAnyH_take (i := 10) (v := .bool true) rfl (by kernel_rfl) (by kernel_rfl) (by kernel_rfl) (fun _ _ _ h => h) (Or.inl ⟨by rfl, fun _ _ => by go_simp⟩) hHeld ?_
  try simp only [Act.put, List.getElem_toArray, List.getElem_cons_zero, List.getElem_cons_succ, List.setIfInBounds_toArray, List.set_cons_zero, List.set_cons_succ]
  refine wpAnyH_take (i := 11) (v := .bool true) rfl (by kernel_rfl) (by kernel_rfl) (by kernel_rfl) (fun _ _ _ h => h) (Or.inl ⟨by rfl, fun _ _ => by go_simp⟩) hHeld ?_
  try simp only [Act.put, List.getElem_toArray, List.getElem_cons_zero, List.getElem_cons_succ, List.setIfInBounds_toArray, List.set_cons_zero, List.set_cons_succ]
  refine wpAnyH_take (i := 12) (v := .bool true) rfl (by kernel_rfl) (by kernel_rfl) (by kernel_rfl) (fun _ _ _ h => h) (Or.inl ⟨by rfl, fun _ _ => by go_simp⟩) hHeld ?_
  try simp only [Act.put, List.getElem_toArray, List.getElem_cons_zero, List.getElem_cons_succ, List.setIfInBounds_toArray, List.set_cons_zero, List.set_cons_succ]
  refine wpAnyH_take (i := 13) (v := .agg (pl qs n).toArray) rfl (by kernel_rfl) (by kernel_rfl) (by kernel_rfl) (fun _ _ _ h => h) (yieldsIf_load_mid (by rfl) 26 _ rfl _ 0 rfl (pl qs n) _ (fun _ h => range_below h hrq (by omega)) Try.underlying26 rfl hiq) hHeld ?_
  try simp only [Act.put, List.getElem_toArray, List.getElem_cons_zero, List.getElem_cons_succ, List.setIfInBounds_toArray, List.set_cons_zero, List.set_cons_succ]
  refine wpAnyH_take (i := 14) (v := .int .i64 ix) rfl (by kernel_rfl) (by kernel_rfl) (by kernel_rfl) (fun _ _ _ h => h) (Or.inl ⟨by rfl, fun _ _ => by go_simp⟩) hHeld ?_
  try simp only [Act.put, List.getElem_toArray, List.getElem_cons_zero, List.getElem_cons_succ, List.setIfInBounds_toArray, List.set_cons_zero, List.set_cons_succ]
  refine wpAnyH_take (i := 16) (v := .agg (bl es).toArray) rfl (by kernel_rfl) (by kernel_rfl) (by kernel_rfl) (fun _ _ _ h => h) (yieldsIf_load_mid (by rfl) 22 _ rfl _ 0 rfl (bl es) _ (fun _ h => range_below h hr1 (by omega)) Try.underlying22 rfl hj) hHeld ?_
  try simp only [Act.put, List.getElem_toArray, List.getElem_cons_zero, List.getElem_cons_succ, List.setIfInBounds_toArray, List.set_cons_zero, List.set_cons_succ]
  refine wpAnyH_take (i := 18) (v := .bool b) rfl (by kernel_rfl) (by kernel_rfl) (by kernel_rfl) (fun _ _ _ h => h) (Or.inl ⟨by rfl, fun _ _ => by go_simp⟩) hHeld ?_
  try simp only [Act.put, List.getElem_toArray, List.getElem_cons_zero, List.getElem_cons_succ, List.setIfInBounds_toArray, List.set_cons_zero, List.set_cons_succ]
  refine wpAnyH_ready (rs := [15]) (by kernel_rfl) (by simp) ?_
  refine AllReadyH.cons rfl (fun K hK => ?_) AllReadyH.nil
  go_simp
  have hch := child_any qs n ix w7 hxq h0 h1 hi0 hi1
  rw [HC.out] at hch
  refine hch.mono ?_
  clear hch
  rintro e w8 ⟨rfl, hc⟩
  refine hK.out _ _ (below_behind hHeld hc) (fun hHeld => ?_)
  clear hK K hc
  try simp only [Act.put, List.getElem_toArray, List.getElem_cons_zero, List.getElem_cons_succ, List.setIfInBounds_toArray, List.set_cons_zero, List.set_cons_succ]
  refine wpAnyH_ready (rs := [17]) (by kernel_rfl) (by simp) ?_
  refine AllReadyH.cons rfl (fun K hK => ?_) AllReadyH.nil
  go_simp
  refine (contains_any xs es (n + 2) _ hx he (by omega) (by omega)).mono ?_
  rintro e w9 ⟨⟨b', rfl, hbm⟩, hc⟩
  have hbb : b' = b := by rw [Bool.eq_iff_iff, hbm, HM1.out, HB.out]
  rw [hbb]
  clear hbb hbm
  refine hK.out _ _ (below_behind hHeld hc) (fun hHeld => ?_)
  clear hK K hc
  try simp only [Act.put, List.getElem_toArray, List.getElem_cons_zero, List.getElem_cons_succ, List.setIfInBounds_toArray, List.set_cons_zero, List.set_cons_succ]
  refine wpAnyH_take (i := 19) (v := .bool true) rfl (by kernel_rfl) (by kernel_rfl) (by kernel_rfl) (fun _ _ _ h => h) (Or.inl ⟨by rfl, fun _ _ => by go_simp⟩) hHeld ?_
  try simp only [Act.put, List.getElem_toArray, List.getElem_cons_zero, List.getElem_cons_succ, List.setIfInBounds_toArray, List.set_cons_zero, List.set_cons_succ]
  refine wpAnyH_take (i := 20) (v := .bool true) rfl (by kernel_rfl) (by kernel_rfl) (by kernel_rfl) (fun _ _ _ h => h) (Or.inl ⟨by rfl, fun _ _ => by go_simp⟩) hHeld ?_
  try simp only [Act.put, List.getElem_toArray, List.getElem_cons_zero, List.getElem_cons_succ, List.setIfInBounds_toArray, List.set_cons_zero, List.set_cons_succ]
  refine wpAnyH_take (i := 21) (v := .bool true) rfl (by kernel_rfl) (by kernel_rfl) (by kernel_rfl) (fun _ _ _ h => h) (Or.inl ⟨by rfl, fun _ _ => by go_simp⟩) hHeld ?_
  try simp only [Act.put, List.getElem_toArray, List.getElem_cons_zero, List.getElem_cons_succ, List.setIfInBounds_toArray, List.set_cons_zero, List.set_cons_succ]
  refine wpAnyH_done (by kernel_rfl) ?_ _
  go_wp2
  go_ret
  exact ⟨rfl, hb.trans (hHeld.mono (by omega))⟩

/-! ### the ways out ahead of the work -/
set_option maxHeartbeats 1000000 in
theorem law5_any (xs es : List Int) (L : Int) (w : World) (hx : Bytes16 xs) (he : Bytes16 es) :
    Calls Try.prog 5 #[.agg (bl xs).toArray, .int .i64 L, .agg (bl es).toArray] w fun e w' => e = .returned (.bool true) ∧ Below w.heap.size w w' := by
  have hb : Below w.heap.size w ((w.alloc (.cells (bl xs).toArray 22)).alloc (.cells (bl es).toArray 22)) := ((Below.refl _ _).alloc (Nat.le_refl _) _).alloc (by simp) _
  by_cases h0 : L < 2
  · go_enter Try.func5, Try.ntmps5
    go_wp2
    go_ret
    exact ⟨rfl, hb⟩
  by_cases h1 : 128 < L
  · go_enter Try.func5, Try.ntmps5
    go_wp2
    go_ret
    exact ⟨rfl, hb⟩
  obtain ⟨n, rfl⟩ : ∃ n, L = n + 2 := ⟨L - 2, by omega⟩
  have k0 : 0 ≤ n := by omega
  have k1 : n ≤ 126 := by omega
  by_cases h2 : n % 2 = 0
  case neg =>
    have g2 : (n % 2 != 0) = true := by simp [h2]
    go_enter Try.func5, Try.ntmps5
    go_wp2
    go_ret
    exact ⟨rfl, hb⟩
  by_cases h5 : TailZ xs (n + 2)
  · exact law5_main xs es n w hx he k0 k1 h2 h5
  · have g2 : (n % 2 != 0) = false := by simp [h2]
    clear h2
    have hi := info22 hx
    have hr0 := World.rangeAt_alloc (range_new w (bl xs) 22) (.cells (bl es).toArray 22)
    go_enter Try.func5, Try.ntmps5
    go_wp2_with (first | (refine wpList_load_mid rfl 22 _ rfl _ 0 rfl _ _ (by exact hr0) Try.underlying22 rfl hi ?_))
    refine (tail_no xs (n + 2) _ hx (by omega) (by omega) h5).mono ?_
    rintro e w1 ⟨rfl, hc⟩
    replace hb := hb.trans (hc.mono hb.size)
    go_wp2
    go_ret
    exact ⟨rfl, hb⟩

/-! ### the row -/
set_option maxRecDepth 100000 in
theorem lifted5 (os : Os) (started : os.Started) (H : Type) (enc : TypeId × Value → H) :
    ReturnsInHanded {} Try.checked os 5 .any (Rows.fnParentContainsWidensTheNodeSpec.pre6 enc Try.prog Try.f5 Rows.fnParentContainsWidensTheNodeRow.domain false) (Rows.fnParentContainsWidensTheNodeSpec.post enc Try.prog Try.f5 false true false false) := by
  refine returnsInHanded_of_change (C := Try.checked) own started (by kernel_rfl) Try.func5
    (ChangeSpec.witness6 (enc := enc) (C := Try.checked) false ⟨#[], #[.agg #[.int .u8 0, .int .u8 0, .int .u8 0, .int .u8 0, .int .u8 0, .int .u8 0, .int .u8 0, .int .u8 0, .int .u8 0, .int .u8 0, .int .u8 0, .int .u8 0, .int .u8 0, .int .u8 0, .int .u8 0, .int .u8 0], .int .i64 0, .agg #[.int .u8 0, .int .u8 0, .int .u8 0, .int .u8 0, .int .u8 0, .int .u8 0, .int .u8 0, .int .u8 0, .int .u8 0, .int .u8 0, .int .u8 0, .int .u8 0, .int .u8 0, .int .u8 0, .int .u8 0, .int .u8 0]], []⟩ 8 (by kernel_rfl) (by kernel_rfl) (by kernel_rfl) (by kernel_rfl)) ?_
  intro W base args ds gs before hval0 hW hcnd _
  have hval : ∀ (j : Nat) t v, Try.f5.params[j]? = some t → args[j]? = some v → Value.okWide Try.prog W .any base t v := hval0
  have hW' := hW
  obtain ⟨p, q, hA0, hV, rfl, hfz, hnd⟩ := hW
  have hA : DataW.TrodAll enc Try.prog W 0 (fun _ => true) true Try.f5.params.toList args.toList ds p := hA0
  rw [Try.params5] at hA hval
  obtain ⟨v0, vs0, d0, ds0, p0, q0, hargs, rfl, rfl, h0, r0⟩ := trodAll_cons hA
  obtain ⟨v1, vs1, d1, ds1, p1, q1, rfl, rfl, rfl, h1, r1⟩ := trodAll_cons r0
  obtain ⟨v2, vs2, d2, ds2, p2, q2, rfl, rfl, rfl, h2, r2⟩ := trodAll_cons r1
  obtain ⟨rfl, rfl, rfl⟩ := trodAll_nil r2
  obtain rfl : args = #[v0, v1, v2] := by cases args; simp_all
  obtain ⟨rfl, rfl⟩ := trodVars_none hV
  have k0 := h0
  have lt0 : ∀ x ∈ p0, x.block < W.heap.size := by obtain ⟨m, hm⟩ := k0; exact DataW.trod_lt m _ _ _ hm
  obtain ⟨x0, rfl, b0⟩ := open_arr (hval 0 22 v0 rfl rfl) h0
  obtain ⟨x1, rfl, rfl, rfl, w1⟩ := open_int Try.underlying3 (hval 1 3 v1 rfl rfl) h1
  have k2 := h2
  have lt2 : ∀ x ∈ p2, x.block < W.heap.size := by obtain ⟨m, hm⟩ := k2; exact DataW.trod_lt m _ _ _ hm
  obtain ⟨x2, rfl, b2⟩ := open_arr (hval 2 22 v2 rfl rfl) h2
  clear hA0 hval0
  refine (law5_any x0 x2 x1 W b0 b2).mono fun e W' ⟨he, bel⟩ => ?_
  subst he
  exact ⟨_, rfl, _, _, _, [], _, [], hW', trodAll_mk1 (shut_bool Try.underlying4 _), (trodAll_cons_mk (Below.trod laidOut (by kernel_rfl) (of_decide_eq_true (by kernel_rfl)) k0 bel lt0) (trodAll_cons_mk (shut_int Try.underlying3 w1) (trodAll_cons_mk (Below.trod laidOut (by kernel_rfl) (of_decide_eq_true (by kernel_rfl)) k2 bel lt2) trodAll_mk0))), rfl, bel.frame _, fun h => by cases h⟩

theorem proved5 : Rows.FnParentContainsWidensTheNodeSaid :=
  OpenClaim.holds_of_wide 5 Try.f5 rfl rfl rfl rfl rfl rfl rfl ⟨rfl, rfl, rfl, rfl, rfl⟩ rfl rfl rfl rfl rfl (by kernel_rfl) Try.func5 (by kernel_rfl)
    (of_decide_eq_true (by kernel_rfl)) (by unfold Func.isWrapper; first | (rw [if_pos (by decide +kernel)]; kernel_rfl) | (rw [if_neg (by decide +kernel)]; exact ⟨rfl, rfl⟩))
    (fun os started H enc _ => lifted5 os started H enc)
#print axioms proved5
end Go.Proofs.Qxb6621689a
