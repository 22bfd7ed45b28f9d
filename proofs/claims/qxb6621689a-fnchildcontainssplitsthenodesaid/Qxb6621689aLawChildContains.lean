import Derived.Test.Qxb6621689aLay
import Derived.Test.Qxb6621689aOpen
import Derived.ProofKit
import Derived.OpenShut
import Derived.ChangeOld
import Derived.Below
namespace Go.Proofs.Qxb6621689a
open Go.ChangeShapes Go.WideShapes Go.ChangeAt Go.RowKit
set_option linter.unusedSimpArgs false
set_option linter.unusedVariables false

set_option maxHeartbeats 2000000 in
theorem law4_main (xs es : List Int) (n i : Int) (w : World) (hx : Bytes16 xs) (he : Bytes16 es) (h0 : 0 ≤ n) (h1 : n ≤ 126) (h2 : n % 2 = 0) (hi0 : 0 ≤ i) (hi1 : i ≤ 3) (ht : TailZ xs n) :
    Calls Try.prog 4 #[.agg (bl xs).toArray, .int .i64 n, .int .i64 i, .agg (bl es).toArray] w fun e w' => e = .returned (.bool true) ∧ Below w.heap.size w w' := by
  have hi := info22 hx
  have hj := info22 he
  have hip := info26 hx n
  have hjp : (Try.prog.info? 26).map (·.size) = some (pl xs n).toArray.size := by simpa using hip
  have hop : (pl xs n).toArray.all (·.oneCell') = true := all_oneCell_toArray (pl_one xs n)
  have hsp : (pl xs n).toArray.size = 17 := by simp [pl_len, hx.len]
  have hr0 := World.rangeAt_alloc (range_new w (bl xs) 22) (.cells (bl es).toArray 22)
  have hr1 := range_new (w.alloc (.cells (bl xs).toArray 22)) (bl es) 22
  have esz : (w.alloc (.cells (bl xs).toArray 22)).heap.size = w.heap.size + 1 := by simp
  rw [esz] at hr1
  have hb : Below w.heap.size w ((w.alloc (.cells (bl xs).toArray 22)).alloc (.cells (bl es).toArray 22)) := ((Below.refl _ _).alloc (Nat.le_refl _) _).alloc (by simp) _
  have hsz : ((w.alloc (.cells (bl xs).toArray 22)).alloc (.cells (bl es).toArray 22)).heap.size = w.heap.size + 1 + 1 := by simp
  have g2 : (n % 2 != 0) = false := by simp [h2]
  clear h2 esz
  go_enter Try.func4, Try.ntmps4
  go_wp2_with (first | (refine wpList_load_mid rfl 22 _ rfl _ 0 rfl _ _ (by exact hr0) Try.underlying22 rfl hi ?_))
  generalize (w.alloc (.cells (bl xs).toArray 22)).alloc (.cells (bl es).toArray 22) = w0 at *
  refine (tail_yes xs n w0 hx h0 (by omega) ht).mono ?_
  rintro e w1 ⟨rfl, hc⟩
  replace hb := hb.trans (hc.mono (by omega))
  replace hr0 := range_below hc hr0 (by omega)
  replace hr1 := range_below hc hr1 (by omega)
  have hs1 : w.heap.size + 1 + 1 ≤ w1.heap.size := by have := hc.size; omega
  clear hc hsz w0
  go_wp2_with (first | (refine wpList_load_mid rfl 22 _ rfl _ 0 rfl _ _ (by exact hr0) Try.underlying22 rfl hi ?_))
  refine (make_any xs n w1 hx).mono ?_
  rintro e w2 ⟨rfl, hc⟩
  replace hb := hb.trans (hc.mono (by omega))
  replace hr0 := range_below hc hr0 (by omega)
  replace hr1 := range_below hc hr1 (by omega)
  have hs2 : w.heap.size + 1 + 1 ≤ w2.heap.size := by have := hc.size; omega
  clear hc hs1 w1
  go_wp2_with (first | (refine wpList_load_mid rfl 22 _ rfl _ 0 rfl _ _ (by exact range_lay hr0 (by omega) _ _ _) Try.underlying22 rfl hi ?_) | (refine wpList_load_mid rfl 22 _ rfl _ 0 rfl _ _ (by exact range_lay hr1 (by omega) _ _ _) Try.underlying22 rfl hj ?_) | (refine wpList_store_mid rfl 26 _ _ rfl _ 0 _ rfl rfl (by rw [hsp]; exact there_new _ _ _) hjp hop ?_))
  refine (match_any xs es n _ hx he h0 (by omega)).mono ?_
  rintro e w3 ⟨⟨b, rfl, hbm⟩, hc⟩
  have HM : Hid (b = true ↔ Match xs es n) := hbm
  clear hbm
  have hc' : Below w2.heap.size w2 w3 := (lay_below w2 _ 26 (pl xs n)).trans (hc.mono (by rw [lay_size]; omega))
  have hrp : w3.rangeAt w2.heap.size 0 (pl xs n) := range_below hc (lay_range w2 _ 26 _ (by rw [pl_len, hx.len]; rfl)) (by rw [lay_size]; omega)
  have hs3 : w2.heap.size + 1 ≤ w3.heap.size := by have := hc.size; rw [lay_size] at this; exact this
  replace hb := hb.trans (hc'.mono (by omega))
  replace hr0 := range_below hc' hr0 (by omega)
  replace hr1 := range_below hc' hr1 (by omega)
  clear hc hc'
  generalize w2.heap.size = bp at *
  clear w2
  go_wp2_with (first | (refine wpList_load_mid rfl 26 _ rfl _ 0 rfl _ _ (by exact hrp) Try.underlying26 rfl hip ?_))
  refine (child_any xs n i _ hx h0 h1 hi0 hi1).mono ?_
  rintro e w4 ⟨rfl, hc⟩
  replace hb := hb.trans (hc.mono (by omega))
  replace hr1 := range_below hc hr1 (by omega)
  replace hrp := range_below hc hrp (by omega)
  have hs4 : bp + 1 ≤ w4.heap.size := by have := hc.size; omega
  clear hc hs3 hr0
  have hxc := hx.chL n i 2
  have hm1 := holds_iff hx he h0 (by omega) ht
  have hm2 := holds_iff hxc he (by omega) (by omega) (tail_chL hx h0 h1 hi0 hi1 ht)
  rw [match_chL hx h0 h1 hi0 hi1 ht] at hm2
  have HM1 : Hid (Holds xs n es ↔ Match xs es n) := hm1
  have HM2 : Hid (Holds (chL xs n i 2) (n + 2) es ↔ Match xs es n ∧ idx es n = i) := hm2
  clear hm1 hm2
  generalize chL xs n i 2 = cs at *
  have hic := info26 hxc (n + 2)
  have hjc : (Try.prog.info? 26).map (·.size) = some (pl cs (n + 2)).toArray.size := by simpa using hic
  have hoc : (pl cs (n + 2)).toArray.all (·.oneCell') = true := all_oneCell_toArray (pl_one cs (n + 2))
  have hsc : (pl cs (n + 2)).toArray.size = 17 := by simp [pl_len, hxc.len]
  go_wp2_with (first | (refine wpList_load_mid rfl 26 _ rfl _ 0 rfl _ _ (by exact range_lay hrp (by omega) _ _ _) Try.underlying26 rfl hip ?_) | (refine wpList_load_mid rfl 22 _ rfl _ 0 rfl _ _ (by exact range_lay hr1 (by omega) _ _ _) Try.underlying22 rfl hj ?_) | (refine wpList_store_mid rfl 26 _ _ rfl _ 0 _ rfl rfl (by rw [hsc]; exact there_new _ _ _) hjc hoc ?_))
  refine (contains_any xs es n _ hx he h0 (by omega)).mono ?_
  rintro e w5 ⟨⟨b', rfl, hbm⟩, hc⟩
  have hbb : b' = b := by
    rw [Bool.eq_iff_iff, hbm, HM1.out, HM.out]
  subst hbb
  clear hbm
  have hc' : Below w4.heap.size w4 w5 := (lay_below w4 _ 26 (pl cs (n + 2))).trans (hc.mono (by rw [lay_size]; omega))
  have hrc : w5.rangeAt w4.heap.size 0 (pl cs (n + 2)) := range_below hc (lay_range w4 _ 26 _ (by rw [pl_len, hxc.len]; rfl)) (by rw [lay_size]; omega)
  have hs5 : w4.heap.size + 1 ≤ w5.heap.size := by have := hc.size; rw [lay_size] at this; exact this
  replace hb := hb.trans (hc'.mono (by omega))
  replace hr1 := range_below hc' hr1 (by omega)
  clear hc hc' hrp
  generalize w4.heap.size = bc at *
  clear w4
  cases b' with
  | false =>
    go_wp2_with (first | (refine wpList_load_want (by rfl) 26 _ rfl _ 0 rfl _ _ (by exact hrc) Try.underlying26 rfl hic ?_) | (refine wpList_load_want (by rfl) 22 _ rfl _ 0 rfl _ _ (by exact hr1) Try.underlying22 rfl hj ?_))
    refine (contains_any cs es (n + 2) _ hxc he (by omega) (by omega)).mono ?_
    rintro e w6 ⟨⟨b2, rfl, hbm⟩, hc⟩
    have hbb : b2 = false := by
      cases b2 with
      | false => rfl
      | true => have := HM.out.2 (HM2.out.1 (hbm.1 rfl)).1; cases this
    subst hbb
    clear hbm
    replace hb := hb.trans (hc.mono (by omega))
    go_wp2
    go_ret
    exact ⟨rfl, hb⟩
  | true =>
    go_wp2_with (first | (refine wpList_load_want (by rfl) 26 _ rfl _ 0 rfl _ _ (by exact hrc) Try.underlying26 rfl hic ?_) | (refine wpList_load_want (by rfl) 22 _ rfl _ 0 rfl _ _ (by exact hr1) Try.underlying22 rfl hj ?_))
    refine (contains_any cs es (n + 2) _ hxc he (by omega) (by omega)).mono ?_
    rintro e w6 ⟨⟨b2, rfl, hbm⟩, hc⟩
    have hbb : b2 = (2 * bitI es n + bitI es (n + 1) == i) := by
      rw [Bool.eq_iff_iff, hbm, HM2.out, beq_iff_eq]
      exact ⟨fun h => h.2, fun h => ⟨HM.out.1 trivial, h⟩⟩
    have HB : Hid (b2 = (2 * bitI es n + bitI es (n + 1) == i)) := hbb
    clear hbm hbb
    have hs6 : bc + 1 ≤ w6.heap.size := by have := hc.size; omega
    replace hb := hb.trans (hc.mono (by omega))
    replace hr1 := range_below hc hr1 (by omega)
    clear hc
    go_wp2_with (first | (refine wpList_load_want (by rfl) 22 _ rfl _ 0 rfl _ _ (by exact hr1) Try.underlying22 rfl hj ?_))
    refine (two_any es n _ he h0 h1).mono ?_
    rintro e w7 ⟨rfl, hc⟩
    replace hb := hb.trans (hc.mono (by omega))
    have hfin : (b2 == (2 * bitI es n + bitI es (n + 1) == i)) = true := by rw [HB.out]; simp
    clear HB HM HM1 HM2
    go_wp2
    go_ret
    exact ⟨rfl, hb⟩

/-! ### the ways out ahead of the work -/
set_option maxHeartbeats 1000000 in
theorem law4_any (xs es : List Int) (n i : Int) (w : World) (hx : Bytes16 xs) (he : Bytes16 es) :
    Calls Try.prog 4 #[.agg (bl xs).toArray, .int .i64 n, .int .i64 i, .agg (bl es).toArray] w fun e w' => e = .returned (.bool true) ∧ Below w.heap.size w w' := by
  have hb : Below w.heap.size w ((w.alloc (.cells (bl xs).toArray 22)).alloc (.cells (bl es).toArray 22)) := ((Below.refl _ _).alloc (Nat.le_refl _) _).alloc (by simp) _
  by_cases h0 : n < 0
  · go_enter Try.func4, Try.ntmps4
    go_wp2
    go_ret
    exact ⟨rfl, hb⟩
  by_cases h1 : 126 < n
  · go_enter Try.func4, Try.ntmps4
    go_wp2
    go_ret
    exact ⟨rfl, hb⟩
  have k0 : 0 ≤ n := by omega
  have k1 : n ≤ 126 := by omega
  by_cases h2 : n % 2 = 0
  case neg =>
    have g2 : (n % 2 != 0) = true := by simp [h2]
    go_enter Try.func4, Try.ntmps4
    go_wp2
    go_ret
    exact ⟨rfl, hb⟩
  by_cases h3 : i < 0
  · have g2 : (n % 2 != 0) = false := by simp [h2]
    go_enter Try.func4, Try.ntmps4
    go_wp2
    go_ret
    exact ⟨rfl, hb⟩
  by_cases h4 : 3 < i
  · have g2 : (n % 2 != 0) = false := by simp [h2]
    clear h2
    go_enter Try.func4, Try.ntmps4
    go_wp2
    go_ret
    exact ⟨rfl, hb⟩
  have k2 : 0 ≤ i := by omega
  have k3 : i ≤ 3 := by omega
  by_cases h5 : TailZ xs n
  · exact law4_main xs es n i w hx he k0 k1 h2 k2 k3 h5
  · have g2 : (n % 2 != 0) = false := by simp [h2]
    clear h2
    have hi := info22 hx
    have hr0 := World.rangeAt_alloc (range_new w (bl xs) 22) (.cells (bl es).toArray 22)
    go_enter Try.func4, Try.ntmps4
    go_wp2_with (first | (refine wpList_load_mid rfl 22 _ rfl _ 0 rfl _ _ (by exact hr0) Try.underlying22 rfl hi ?_))
    refine (tail_no xs n _ hx k0 (by omega) h5).mono ?_
    rintro e w1 ⟨rfl, hc⟩
    replace hb := hb.trans (hc.mono hb.size)
    go_wp2
    go_ret
    exact ⟨rfl, hb⟩

/-! ### the row -/
set_option maxRecDepth 100000 in
theorem lifted4 (os : Os) (started : os.Started) (H : Type) (enc : TypeId × Value → H) :
    ReturnsInHanded {} Try.checked os 4 .any (Rows.fnChildContainsSplitsTheNodeSpec.pre6 enc Try.prog Try.f4 Rows.fnChildContainsSplitsTheNodeRow.domain false) (Rows.fnChildContainsSplitsTheNodeSpec.post enc Try.prog Try.f4 false true false false) := by
  refine returnsInHanded_of_change (C := Try.checked) own started (by kernel_rfl) Try.func4
    (ChangeSpec.witness6 (enc := enc) (C := Try.checked) false ⟨#[], #[.agg #[.int .u8 0, .int .u8 0, .int .u8 0, .int .u8 0, .int .u8 0, .int .u8 0, .int .u8 0, .int .u8 0, .int .u8 0, .int .u8 0, .int .u8 0, .int .u8 0, .int .u8 0, .int .u8 0, .int .u8 0, .int .u8 0], .int .i64 0, .int .i64 0, .agg #[.int .u8 0, .int .u8 0, .int .u8 0, .int .u8 0, .int .u8 0, .int .u8 0, .int .u8 0, .int .u8 0, .int .u8 0, .int .u8 0, .int .u8 0, .int .u8 0, .int .u8 0, .int .u8 0, .int .u8 0, .int .u8 0]], []⟩ 8 (by kernel_rfl) (by kernel_rfl) (by kernel_rfl) (by kernel_rfl)) ?_
  intro W base args ds gs before hval0 hW hcnd _
  have hval : ∀ (j : Nat) t v, Try.f4.params[j]? = some t → args[j]? = some v → Value.okWide Try.prog W .any base t v := hval0
  have hW' := hW
  obtain ⟨p, q, hA0, hV, rfl, hfz, hnd⟩ := hW
  have hA : DataW.TrodAll enc Try.prog W 0 (fun _ => true) true Try.f4.params.toList args.toList ds p := hA0
  rw [Try.params4] at hA hval
  obtain ⟨v0, vs0, d0, ds0, p0, q0, hargs, rfl, rfl, h0, r0⟩ := trodAll_cons hA
  obtain ⟨v1, vs1, d1, ds1, p1, q1, rfl, rfl, rfl, h1, r1⟩ := trodAll_cons r0
  obtain ⟨v2, vs2, d2, ds2, p2, q2, rfl, rfl, rfl, h2, r2⟩ := trodAll_cons r1
  obtain ⟨v3, vs3, d3, ds3, p3, q3, rfl, rfl, rfl, h3, r3⟩ := trodAll_cons r2
  obtain ⟨rfl, rfl, rfl⟩ := trodAll_nil r3
  obtain rfl : args = #[v0, v1, v2, v3] := by cases args; simp_all
  obtain ⟨rfl, rfl⟩ := trodVars_none hV
  have k0 := h0
  have k3 := h3
  have lt0 : ∀ x ∈ p0, x.block < W.heap.size := by obtain ⟨m, hm⟩ := k0; exact DataW.trod_lt m _ _ _ hm
  have lt3 : ∀ x ∈ p3, x.block < W.heap.size := by obtain ⟨m, hm⟩ := k3; exact DataW.trod_lt m _ _ _ hm
  obtain ⟨xs, rfl, hx⟩ := open_arr (hval 0 22 v0 rfl rfl) h0
  obtain ⟨a1, rfl, rfl, rfl, w1⟩ := open_int Try.underlying3 (hval 1 3 v1 rfl rfl) h1
  obtain ⟨a2, rfl, rfl, rfl, w2⟩ := open_int Try.underlying3 (hval 2 3 v2 rfl rfl) h2
  obtain ⟨es, rfl, he⟩ := open_arr (hval 3 22 v3 rfl rfl) h3
  clear hA0 hval0
  refine (law4_any xs es a1 a2 W hx he).mono fun e W' ⟨he, bel⟩ => ?_
  subst he
  exact ⟨_, rfl, _, _, _, [], _, [], hW', trodAll_mk1 (shut_bool Try.underlying4 _), (trodAll_cons_mk (Below.trod laidOut (by kernel_rfl) (of_decide_eq_true (by kernel_rfl)) k0 bel lt0) (trodAll_cons_mk (shut_int Try.underlying3 w1) (trodAll_cons_mk (shut_int Try.underlying3 w2) (trodAll_cons_mk (Below.trod laidOut (by kernel_rfl) (of_decide_eq_true (by kernel_rfl)) k3 bel lt3) trodAll_mk0)))), rfl, bel.frame _, fun h => by cases h⟩

theorem proved4 : Rows.FnChildContainsSplitsTheNodeSaid :=
  OpenClaim.holds_of_wide 4 Try.f4 rfl rfl rfl rfl rfl rfl rfl ⟨rfl, rfl, rfl, rfl, rfl⟩ rfl rfl rfl rfl rfl (by kernel_rfl) Try.func4 (by kernel_rfl)
    (of_decide_eq_true (by kernel_rfl)) (by unfold Func.isWrapper; first | (rw [if_pos (by decide +kernel)]; kernel_rfl) | (rw [if_neg (by decide +kernel)]; exact ⟨rfl, rfl⟩))
    (fun os started H enc _ => lifted4 os started H enc)
#print axioms proved4
end Go.Proofs.Qxb6621689a
