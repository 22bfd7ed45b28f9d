import Derived.Test.Qxb6621689aEql
import Derived.Test.Qxb6621689aOpen
import Derived.ProofKit
import Derived.OpenShut
import Derived.ChangeOld
import Derived.Below
namespace Go.Proofs.Qxb6621689a
open Go.ChangeShapes Go.WideShapes Go.ChangeAt Go.RowKit
set_option linter.unusedSimpArgs false
set_option linter.unusedVariables false

set_option maxHeartbeats 2000000 in
theorem law6_main (xs : List Int) (n i : Int) (w : World) (hx : Bytes16 xs) (h0 : 0 ≤ n) (h1 : n ≤ 126) (h2 : n % 2 = 0) (hi0 : 0 ≤ i) (hi1 : i ≤ 3) (ht : TailZ xs n) :
    Calls Try.prog 6 #[.agg (bl xs).toArray, .int .i64 n, .int .i64 i] w fun e w' => e = .returned (.bool true) ∧ Below w.heap.size w w' := by
  have hi := info22 hx
  have hip := info26 hx n
  have hjp : (Try.prog.info? 26).map (·.size) = some (pl xs n).toArray.size := by simpa using hip
  have hop : (pl xs n).toArray.all (·.oneCell') = true := all_oneCell_toArray (pl_one xs n)
  have hsp : (pl xs n).toArray.size = 17 := by simp [pl_len, hx.len]
  have hr0 := range_new w (bl xs) 22
  have hb : Below w.heap.size w (w.alloc (.cells (bl xs).toArray 22)) := (Below.refl _ _).alloc (Nat.le_refl _) _
  have hsz : (w.alloc (.cells (bl xs).toArray 22)).heap.size = w.heap.size + 1 := by simp
  have g2 : (n % 2 != 0) = false := by simp [h2]
  have HX : Hid (n % 2 = 0) := h2
  clear h2
  go_enter Try.func6, Try.ntmps6
  go_wp2_with (first | (refine wpList_load_mid rfl 22 _ rfl _ 0 rfl _ _ (by exact hr0) Try.underlying22 rfl hi ?_))
  generalize w.alloc (.cells (bl xs).toArray 22) = w0 at *
  refine (tail_yes xs n w0 hx h0 (by omega) ht).mono ?_
  rintro e w1 ⟨rfl, hc⟩
  replace hb := hb.trans (hc.mono (by omega))
  replace hr0 := range_below hc hr0 (by omega)
  have hs1 : w.heap.size + 1 ≤ w1.heap.size := by have := hc.size; omega
  clear hc hsz w0
  go_wp2_with (first | (refine wpList_load_mid rfl 22 _ rfl _ 0 rfl _ _ (by exact hr0) Try.underlying22 rfl hi ?_))
  refine (make_any xs n w1 hx).mono ?_
  rintro e w2 ⟨rfl, hc⟩
  replace hb := hb.trans (hc.mono (by omega))
  have hs2 : w.heap.size + 1 ≤ w2.heap.size := by have := hc.size; omega
  clear hc hs1 hr0 w1
  go_wp2_with (first | (refine wpList_load_mid rfl 26 _ rfl _ 0 rfl _ _ (by exact lay_range w2 _ 26 (pl xs n) (by rw [pl_len, hx.len]; rfl)) Try.underlying26 rfl hip ?_) | (refine wpList_store_mid rfl 26 _ _ rfl _ 0 _ rfl rfl (by rw [hsp]; exact there_new _ _ _) hjp hop ?_))
  refine (child_any xs n i _ hx h0 h1 hi0 hi1).mono ?_
  rintro e w3 ⟨rfl, hc⟩
  have hc' : Below w2.heap.size w2 w3 := (lay_below w2 _ 26 (pl xs n)).trans (hc.mono (by rw [lay_size]; omega))
  have hrp : w3.rangeAt w2.heap.size 0 (pl xs n) := range_below hc (lay_range w2 _ 26 _ (by rw [pl_len, hx.len]; rfl)) (by rw [lay_size]; omega)
  have hs3 : w2.heap.size + 1 ≤ w3.heap.size := by have := hc.size; rw [lay_size] at this; exact this
  replace hb := hb.trans (hc'.mono (by omega))
  clear hc hc'
  generalize w2.heap.size = bp at *
  clear w2
  have hxc := hx.chL n i 2
  have htc := tail_chL hx h0 h1 hi0 hi1 ht
  have HP : Hid (paL (chL xs n i 2) n 2 = xs) := paL_chL hx h0 h1 hi0 hi1 ht
  have HI : Hid (2 * bitI (chL xs n i 2) n + bitI (chL xs n i 2) (n + 1) = i) := idx_chL hx h0 h1 hi0 hi1 ht
  generalize chL xs n i 2 = cs at *
  have hic := info26 hxc (n + 2)
  have hjc : (Try.prog.info? 26).map (·.size) = some (pl cs (n + 2)).toArray.size := by simpa using hic
  have hoc : (pl cs (n + 2)).toArray.all (·.oneCell') = true := all_oneCell_toArray (pl_one cs (n + 2))
  have hsc : (pl cs (n + 2)).toArray.size = 17 := by simp [pl_len, hxc.len]
  go_wp2_with (first | (refine wpList_load_mid rfl 26 _ rfl _ 0 rfl _ _ (by exact lay_range w3 _ 26 (pl cs (n + 2)) (by rw [pl_len, hxc.len]; rfl)) Try.underlying26 rfl hic ?_) | (refine wpList_store_mid rfl 26 _ _ rfl _ 0 _ rfl rfl (by rw [hsc]; exact there_new _ _ _) hjc hoc ?_))
  refine (length_any cs (n + 2) _ hxc).mono ?_
  rintro e w4 ⟨rfl, hc⟩
  have hc' : Below w3.heap.size w3 w4 := (lay_below w3 _ 26 (pl cs (n + 2))).trans (hc.mono (by rw [lay_size]; omega))
  have hrc : w4.rangeAt w3.heap.size 0 (pl cs (n + 2)) := range_below hc (lay_range w3 _ 26 _ (by rw [pl_len, hxc.len]; rfl)) (by rw [lay_size]; omega)
  have hs4 : w3.heap.size + 1 ≤ w4.heap.size := by have := hc.size; rw [lay_size] at this; exact this
  replace hb := hb.trans (hc'.mono (by omega))
  replace hrp := range_below hc' hrp (by omega)
  clear hc hc'
  generalize w3.heap.size = bc at *
  clear w3
  go_wp2_with (first | (refine wpList_load_mid rfl 26 _ rfl _ 0 rfl _ _ (by exact hrc) Try.underlying26 rfl hic ?_))
  refine (bits_any cs (n + 2) _ hxc).mono ?_
  rintro e w5 ⟨rfl, hc⟩
  replace hb := hb.trans (hc.mono (by omega))
  replace hrp := range_below hc hrp (by omega)
  replace hrc := range_below hc hrc (by omega)
  have hs5 : bc + 1 ≤ w5.heap.size := by have := hc.size; omega
  clear hc hs4 w4
  go_wp2_with fail
  refine (tail_yes cs (n + 2) _ hxc (by omega) (by omega) htc).mono ?_
  rintro e w6 ⟨rfl, hc⟩
  replace hb := hb.trans (hc.mono (by omega))
  replace hrp := range_below hc hrp (by omega)
  replace hrc := range_below hc hrc (by omega)
  have hs6 : bc + 1 ≤ w6.heap.size := by have := hc.size; omega
  clear hc hs5 w5
  go_wp2_with (first | (refine wpList_load_mid rfl 26 _ rfl _ 0 rfl _ _ (by exact hrc) Try.underlying26 rfl hic ?_))
  have hpar := parent_any cs n w6 hxc h0 h1 HX.out
  rw [HP.out, HI.out] at hpar
  refine hpar.mono ?_
  clear hpar
  rintro e w7 ⟨rfl, hc⟩
  replace hb := hb.trans (hc.mono (by omega))
  replace hrp := range_below hc hrp (by omega)
  have hs7 : bc + 1 ≤ w7.heap.size := by have := hc.size; omega
  clear hc hs6 hrc w6
  go_wp2_with (first | (refine wpList_load_mid rfl 26 _ rfl _ 0 rfl _ _ (by exact lay_range w7 _ 26 (pl xs n) (by rw [pl_len, hx.len]; rfl)) Try.underlying26 rfl hip ?_) | (refine wpList_load_mid rfl 26 _ rfl _ 0 rfl _ _ (by exact range_lay hrp (by omega) _ _ _) Try.underlying26 rfl hip ?_) | (refine wpList_store_mid rfl 26 _ _ rfl _ 0 _ rfl rfl (by rw [hsp]; exact there_new _ _ _) hjp hop ?_) | (refine wpList_eql rfl 26 _ _ _ rfl (pl xs n).toArray rfl rfl guard26 (eql_self xs n hx _) ?_))
  go_ret
  exact ⟨rfl, hb.trans ((lay_below w7 _ 26 (pl xs n)).mono (by omega))⟩

/-! ### the ways out ahead of the work -/
set_option maxHeartbeats 1000000 in
theorem law6_any (xs : List Int) (n i : Int) (w : World) (hx : Bytes16 xs) :
    Calls Try.prog 6 #[.agg (bl xs).toArray, .int .i64 n, .int .i64 i] w fun e w' => e = .returned (.bool true) ∧ Below w.heap.size w w' := by
  have hb : Below w.heap.size w (w.alloc (.cells (bl xs).toArray 22)) := (Below.refl _ _).alloc (Nat.le_refl _) _
  by_cases h0 : n < 0
  · go_enter Try.func6, Try.ntmps6
    go_wp2
    go_ret
    exact ⟨rfl, hb⟩
  by_cases h1 : 126 < n
  · go_enter Try.func6, Try.ntmps6
    go_wp2
    go_ret
    exact ⟨rfl, hb⟩
  have k0 : 0 ≤ n := by omega
  have k1 : n ≤ 126 := by omega
  by_cases h2 : n % 2 = 0
  case neg =>
    have g2 : (n % 2 != 0) = true := by simp [h2]
    go_enter Try.func6, Try.ntmps6
    go_wp2
    go_ret
    exact ⟨rfl, hb⟩
  by_cases h3 : i < 0
  · have g2 : (n % 2 != 0) = false := by simp [h2]
    clear h2
    go_enter Try.func6, Try.ntmps6
    go_wp2
    go_ret
    exact ⟨rfl, hb⟩
  by_cases h4 : 3 < i
  · have g2 : (n % 2 != 0) = false := by simp [h2]
    clear h2
    go_enter Try.func6, Try.ntmps6
    go_wp2
    go_ret
    exact ⟨rfl, hb⟩
  have k2 : 0 ≤ i := by omega
  have k3 : i ≤ 3 := by omega
  by_cases h5 : TailZ xs n
  · exact law6_main xs n i w hx k0 k1 h2 k2 k3 h5
  · have g2 : (n % 2 != 0) = false := by simp [h2]
    clear h2
    have hi := info22 hx
    have hr0 := range_new w (bl xs) 22
    go_enter Try.func6, Try.ntmps6
    go_wp2_with (first | (refine wpList_load_mid rfl 22 _ rfl _ 0 rfl _ _ (by exact hr0) Try.underlying22 rfl hi ?_))
    refine (tail_no xs n _ hx k0 (by omega) h5).mono ?_
    rintro e w1 ⟨rfl, hc⟩
    replace hb := hb.trans (hc.mono hb.size)
    go_wp2
    go_ret
    exact ⟨rfl, hb⟩

/-! ### the row -/
set_option maxRecDepth 100000 in
theorem lifted6 (os : Os) (started : os.Started) (H : Type) (enc : TypeId × Value → H) :
    ReturnsInHanded {} Try.checked os 6 .any (Rows.fnChildThenParentRoundTripSpec.pre6 enc Try.prog Try.f6 Rows.fnChildThenParentRoundTripRow.domain false) (Rows.fnChildThenParentRoundTripSpec.post enc Try.prog Try.f6 false true false false) := by
  refine returnsInHanded_of_change (C := Try.checked) own started (by kernel_rfl) Try.func6
    (ChangeSpec.witness6 (enc := enc) (C := Try.checked) false ⟨#[], #[.agg #[.int .u8 0, .int .u8 0, .int .u8 0, .int .u8 0, .int .u8 0, .int .u8 0, .int .u8 0, .int .u8 0, .int .u8 0, .int .u8 0, .int .u8 0, .int .u8 0, .int .u8 0, .int .u8 0, .int .u8 0, .int .u8 0], .int .i64 0, .int .i64 0], []⟩ 8 (by kernel_rfl) (by kernel_rfl) (by kernel_rfl) (by kernel_rfl)) ?_
  intro W base args ds gs before hval0 hW hcnd _
  have hval : ∀ (j : Nat) t v, Try.f6.params[j]? = some t → args[j]? = some v → Value.okWide Try.prog W .any base t v := hval0
  have hW' := hW
  obtain ⟨p, q, hA0, hV, rfl, hfz, hnd⟩ := hW
  have hA : DataW.TrodAll enc Try.prog W 0 (fun _ => true) true Try.f6.params.toList args.toList ds p := hA0
  rw [Try.params6] at hA hval
  obtain ⟨v0, vs0, d0, ds0, p0, q0, hargs, rfl, rfl, h0, r0⟩ := trodAll_cons hA
  obtain ⟨v1, vs1, d1, ds1, p1, q1, rfl, rfl, rfl, h1, r1⟩ := trodAll_cons r0
  obtain ⟨v2, vs2, d2, ds2, p2, q2, rfl, rfl, rfl, h2, r2⟩ := trodAll_cons r1
  obtain ⟨rfl, rfl, rfl⟩ := trodAll_nil r2
  obtain rfl : args = #[v0, v1, v2] := by cases args; simp_all
  obtain ⟨rfl, rfl⟩ := trodVars_none hV
  have k0 := h0
  have lt0 : ∀ x ∈ p0, x.block < W.heap.size := by obtain ⟨m, hm⟩ := k0; exact DataW.trod_lt m _ _ _ hm
  obtain ⟨x0, rfl, b0⟩ := open_arr (hval 0 22 v0 rfl rfl) h0
  obtain ⟨x1, rfl, rfl, rfl, w1⟩ := open_int Try.underlying3 (hval 1 3 v1 rfl rfl) h1
  obtain ⟨x2, rfl, rfl, rfl, w2⟩ := open_int Try.underlying3 (hval 2 3 v2 rfl rfl) h2
  clear hA0 hval0
  refine (law6_any x0 x1 x2 W b0).mono fun e W' ⟨he, bel⟩ => ?_
  subst he
  exact ⟨_, rfl, _, _, _, [], _, [], hW', trodAll_mk1 (shut_bool Try.underlying4 _), (trodAll_cons_mk (Below.trod laidOut (by kernel_rfl) (of_decide_eq_true (by kernel_rfl)) k0 bel lt0) (trodAll_cons_mk (shut_int Try.underlying3 w1) (trodAll_cons_mk (shut_int Try.underlying3 w2) trodAll_mk0))), rfl, bel.frame _, fun h => by cases h⟩

theorem proved6 : Rows.FnChildThenParentRoundTripSaid :=
  OpenClaim.holds_of_wide 6 Try.f6 rfl rfl rfl rfl rfl rfl rfl ⟨rfl, rfl, rfl, rfl, rfl⟩ rfl rfl rfl rfl rfl (by kernel_rfl) Try.func6 (by kernel_rfl)
    (of_decide_eq_true (by kernel_rfl)) (by unfold Func.isWrapper; first | (rw [if_pos (by decide +kernel)]; kernel_rfl) | (rw [if_neg (by decide +kernel)]; exact ⟨rfl, rfl⟩))
    (fun os started H enc _ => lifted6 os started H enc)
#print axioms proved6
end Go.Proofs.Qxb6621689a
