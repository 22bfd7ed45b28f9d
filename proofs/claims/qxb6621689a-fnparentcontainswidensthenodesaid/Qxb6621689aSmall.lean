import Derived.Test.Qxb6621689aBase
namespace Go.Proofs.Qxb6621689a
open Go.RowKit
set_option linter.unusedSimpArgs false
set_option linter.unusedVariables false

theorem sixteen {α : Type} {l : List α} (h : l.length = 16) : ∃ a0 a1 a2 a3 a4 a5 a6 a7 a8 a9 a10 a11 a12 a13 a14 a15, l = [a0, a1, a2, a3, a4, a5, a6, a7, a8, a9, a10, a11, a12, a13, a14, a15] := by
  match l, h with
  | [a0, a1, a2, a3, a4, a5, a6, a7, a8, a9, a10, a11, a12, a13, a14, a15], _ => exact ⟨a0, a1, a2, a3, a4, a5, a6, a7, a8, a9, a10, a11, a12, a13, a14, a15, rfl⟩

theorem build_run {xs : List Int} (hx : Bytes16 xs) (n : Int) (w : World) : (Instr.build 26 #[(0, .agg (bl xs).toArray), (1, .int .i64 n)]).run Try.prog w = .ok (.agg (pl xs n).toArray) w := by
  obtain ⟨a0, a1, a2, a3, a4, a5, a6, a7, a8, a9, a10, a11, a12, a13, a14, a15, rfl⟩ := sixteen hx.len
  kernel_rfl

theorem wp_build {P : Program} {op : Oper} {a : Act} {w : World} {K : Act → World → Prop} {Q : Exit → Act → World → Prop} (t : TypeId) (parts : Array (Nat × Operand)) (ho : op.op = .build t parts)
    (vals : Array (Nat × Value)) (he : parts.map (fun (i, x) => (i, a.eval x)) = vals) (v : Value) (hb : (Instr.build t vals).run P w = .ok v w)
    (h : K (a.put op.dst v) w) : op.wp P a w K Q := by
  unfold Oper.wp execOp
  simp only [ho, he, Sem.run_bind, hb, Result.andThen_ok, Sem.run_pure]
  exact h

theorem wpList_build {P : Program} {ops : Array Oper} {rest : List Oper} {op : Oper} {a : Act} {w : World} {Q : Exit → Act → World → Prop} (hgd : op.guard = none) (t : TypeId) (parts : Array (Nat × Operand)) (ho : op.op = .build t parts)
    (vals : Array (Nat × Value)) (he : parts.map (fun (i, x) => (i, a.eval x)) = vals) (v : Value) (hb : (Instr.build t vals).run P w = .ok v w)
    (h : wpList P ops Q rest (a.put op.dst v) w) : wpList P ops Q (op :: rest) a w :=
  wpList_plain hgd fun _ hK => wp_build t parts ho vals he v hb (hK _ _ h)

theorem results_mid {P : Program} {fn : Func} {p : Tmp} {ty : TypeId} (h : fn.results = #[.cell p ty]) (tmps : Array Value) (w : World) (b : Nat) (cs : List Value) (d : TypeDesc)
    (hp : tmps.getD p undef = .pointer (some ⟨b, 0, none⟩)) (hc : w.rangeAt b 0 cs)
    (hu : P.underlying ty = some d) (hd : d.isRow = true) (hi : (P.info? ty).map (·.size) = some cs.length) :
    (results fn tmps).run P w = .ok (.agg cs.toArray) w := by
  have hp' : tmps[p]?.getD undef = .pointer (some ⟨b, 0, none⟩) := by simpa using hp
  simp [results, h, hp', asAddr, run_loadVar_mid w b 0 ty cs d hc hu hd hi]

theorem there_new (w : World) (cs : Array Value) (t : TypeId) : (w.alloc (.cells cs t)).there w.heap.size 0 cs.size := fun j hj => by
  rw [Nat.zero_add]
  have hg := heap_alloc_new w (.cells cs t)
  exact ⟨by rw [cell_of_row _ _ _ _ _ _ hg]; simp [hj], by unfold World.frozen?; show (match (w.alloc (.cells cs t)).heap[w.heap.size]? with | some (Obj.cells c elem (lo, hi)) => decide (lo ≤ j) && decide (j < hi) | x => false) = false; rw [hg]; simp⟩

theorem there_next (w : World) (o : Obj) (cs : Array Value) (t : TypeId) (n : Nat) (hn : cs.size = n) : ((w.alloc o).alloc (.cells cs t)).there (w.heap.size + 1) 0 n := by
  have h := there_new (w.alloc o) cs t
  have e : (w.alloc o).heap.size = w.heap.size + 1 := by simp
  rw [e, hn] at h
  exact h

theorem below_setCells {B : Nat} {a : World} (b : Nat) (hb : B ≤ b) : ∀ (vs : List Value) (o : Nat) (w : World), Below B a w → Below B a (w.setCells b o vs)
  | [], _, _, h => h
  | v :: r, o, w, h => by
    rw [World.setCells]
    exact below_setCells b hb r (o + 1) _ (h.setCell (p := ⟨b, o, none⟩) hb v)

set_option maxHeartbeats 400000 in
theorem make_any (xs : List Int) (n : Int) (w : World) (hx : Bytes16 xs) :
    Calls Try.prog 8 #[.agg (bl xs).toArray, .int .i64 n] w fun e w' => e = .returned (.agg (pl xs n).toArray) ∧ Below w.heap.size w w' := by
  have hi := info22 hx
  have hj : (Try.prog.info? 26).map (·.size) = some (pl xs n).toArray.size := by have := info26 hx n; simpa using this
  have h17 : (pl xs n).toArray.size = 17 := by simp [pl_len, hx.len]
  have hr := range_new w (bl xs) 22
  have h1 : (pl xs n).toArray.all (·.oneCell') = true := all_oneCell_toArray (pl_one xs n)
  have HB := fun w => build_run hx n w
  go_enter Try.func8, Try.ntmps8
  go_wp2_with (first | (refine wpList_load_mid rfl 22 _ rfl _ 0 rfl _ _ (by exact World.rangeAt_alloc hr _) Try.underlying22 rfl hi ?_) | (refine wpList_build rfl 26 _ rfl #[(0, .agg (bl xs).toArray), (1, .int .i64 n)] (by simp [Act.eval]) _ (HB _) ?_) | (refine wpList_store_mid rfl 26 _ _ rfl _ 0 _ rfl rfl (by rw [h17]; exact there_next _ _ _ _ 17 rfl) hj h1 ?_))
  refine bodyPost_ret (v := .agg (pl xs n).toArray) (results_mid Try.results8 _ _ (w.heap.size + 1) (pl xs n) _ rfl (World.rangeAt_setCells_same _ _ _ _ (there_next _ _ _ _ _ (by rw [pl_len, hx.len]; rfl))) Try.underlying26 rfl (info26 hx n)) rfl ⟨rfl, ?_⟩
  exact below_setCells _ (by omega) _ _ _ (((Below.refl _ _).alloc (Nat.le_refl _) _).alloc (by simp) _)

theorem range_bits {w : World} {b : Nat} {xs : List Int} {n : Int} (h : w.rangeAt b 0 (pl xs n)) : w.rangeAt b 0 (bl xs) := fun j v hv => by
  have hj : j < xs.length := by have := (List.getElem?_eq_some_iff.1 hv).1; rwa [bl_len] at this
  rw [bl_get xs j hj] at hv
  exact h j v (by rw [pl_get xs n j hj]; exact hv)
theorem range_len {w : World} {b : Nat} {xs : List Int} {n : Int} (hx : xs.length = 16) (h : w.rangeAt b 0 (pl xs n)) : w.cell? ⟨b, 16, none⟩ = some (.int .i64 n) := by
  have := h 16 _ (pl_last xs n hx)
  simpa using this
theorem range_byte {w : World} {b : Nat} {xs : List Int} (h : w.rangeAt b 0 (bl xs)) (j : Nat) (hj : j < xs.length) : w.cell? ⟨b, j, none⟩ = some (.int .u8 (xs[j]?.getD 0)) := by
  have := h j _ (bl_get xs j hj)
  simpa using this

set_option maxHeartbeats 400000 in
theorem length_any (xs : List Int) (n : Int) (w : World) (hx : Bytes16 xs) :
    Calls Try.prog 10 #[.agg (pl xs n).toArray] w fun e w' => e = .returned (.int .i64 n) ∧ Below w.heap.size w w' := by
  have hc := range_len hx.len (range_new w (pl xs n) 26)
  go_enter Try.func10, Try.ntmps10
  go_wp2
  go_ret
  exact ⟨rfl, (Below.refl _ _).alloc (Nat.le_refl _) _⟩

set_option maxHeartbeats 400000 in
theorem depth_any (xs : List Int) (n : Int) (w : World) (hx : Bytes16 xs) (h0 : 0 ≤ n) (h1 : n ≤ 128) :
    Calls Try.prog 18 #[.agg (pl xs n).toArray] w fun e w' => e = .returned (.int .i64 (n / 2)) ∧ Below w.heap.size w w' := by
  have hc := range_len hx.len (range_new w (pl xs n) 26)
  go_enter Try.func18, Try.ntmps18
  go_wp2
  go_ret
  exact ⟨rfl, (Below.refl _ _).alloc (Nat.le_refl _) _⟩

set_option maxHeartbeats 400000 in
theorem bits_any (xs : List Int) (n : Int) (w : World) (hx : Bytes16 xs) :
    Calls Try.prog 11 #[.agg (pl xs n).toArray] w fun e w' => e = .returned (.agg (bl xs).toArray) ∧ Below w.heap.size w w' := by
  have hi := info24 hx
  have hj : (Try.prog.info? 22).map (·.size) = some (bl xs).toArray.size := by have := info22 hx; simpa using this
  have h16 : (bl xs).toArray.size = 16 := by simp [bl_len, hx.len]
  have hr := range_bits (range_new w (pl xs n) 26)
  have h1 : (bl xs).toArray.all (·.oneCell') = true := all_oneCell_toArray (bl_one xs)
  go_enter Try.func11, Try.ntmps11
  go_wp2_with (first | (refine wpList_load_mid rfl 24 _ rfl _ 0 rfl _ _ (by exact World.rangeAt_alloc hr _) Try.underlying24 rfl hi ?_) | (refine wpList_store_mid rfl 22 _ _ rfl _ 0 _ rfl rfl (by rw [h16]; exact there_next _ _ _ _ 16 rfl) hj h1 ?_))
  refine bodyPost_ret (v := .agg (bl xs).toArray) (results_mid Try.results11 _ _ (w.heap.size + 1) (bl xs) _ rfl (World.rangeAt_setCells_same _ _ _ _ (there_next _ _ _ _ _ (by rw [bl_len, hx.len]; rfl))) Try.underlying22 rfl (info22 hx)) rfl ⟨rfl, ?_⟩
  exact below_setCells _ (by omega) _ _ _ (((Below.refl _ _).alloc (Nat.le_refl _) _).alloc (by simp) _)

/-! ### bit -/
set_option maxHeartbeats 400000 in
theorem bit_any (xs : List Int) (k : Int) (b : Nat) (w : World) (hx : Bytes16 xs) (h0 : 0 ≤ k) (h1 : k < 128) (hr : w.rangeAt b 0 (bl xs)) :
    Calls Try.prog 20 #[.pointer (some ⟨b, 0, none⟩), .int .i64 k] w fun e w' => e = .returned (.int .u8 (bitI xs k)) ∧ w' = w := by
  have hc := range_byte hr (k / 8).toNat (by have := hx.len; omega)
  have hd := div_pow_bd _ (7 - k % 8).toNat (hx.at (k / 8).toNat).1 (by have := (hx.at (k / 8).toNat).2; omega)
  have HB : Hid (bits .and .u8 (xs[(k / 8).toNat]?.getD 0 / 2 ^ (7 - k % 8).toNat) 1 = bitI xs k) := and_one_u8 _ hd.1 hd.2
  clear hd
  go_enter Try.func20, Try.ntmps20
  go_wp2
  go_ret
  exact ⟨ret_int HB.out, rfl⟩

theorem or_two {p q : Int} (hp : p = 0 ∨ p = 1) (hq : q = 0 ∨ q = 1) : bits .or .i64 (p * 2) q = 2 * p + q := by
  rcases hp with rfl | rfl <;> rcases hq with rfl | rfl <;> rfl
theorem or_zero {q : Int} (hq : q = 0 ∨ q = 1) : bits .or .i64 0 q = q := by
  rcases hq with rfl | rfl <;> rfl

/-! ### childIndex -/
set_option maxHeartbeats 400000 in
theorem index_any (xs : List Int) (d : Int) (b : Nat) (w : World) (hx : Bytes16 xs) (h0 : 0 ≤ d) (h1 : d < 64) (hr : w.rangeAt b 0 (bl xs)) :
    Calls Try.prog 17 #[.pointer (some ⟨b, 0, none⟩), .int .i64 d] w fun e w' => e = .returned (.int .i64 (2 * bitI xs (d * 2) + bitI xs (d * 2 + 1))) ∧ w' = w := by
  have hk0 := bitI_01 xs (d * 2)
  have hk1 := bitI_01 xs (d * 2 + 1)
  have b0 : 0 ≤ bitI xs (d * 2) ∧ bitI xs (d * 2) ≤ 1 := by omega
  have b1 : 0 ≤ bitI xs (d * 2 + 1) ∧ bitI xs (d * 2 + 1) ≤ 1 := by omega
  have e5 : bits .or .i64 (bitI xs (d * 2) * 2) (bitI xs (d * 2 + 1)) = 2 * bitI xs (d * 2) + bitI xs (d * 2 + 1) := or_two hk0 hk1
  have e6 : bits .or .i64 0 (bitI xs (d * 2)) = bitI xs (d * 2) := or_zero hk0
  clear hk0 hk1
  go_enter Try.func17, Try.ntmps17
  go_wp2
  go_loop [5, 7] (fun i j => (j = .int .i64 0 ∧ i = .int .i64 0) ∨ (j = .int .i64 1 ∧ i = .int .i64 (bitI xs (d * 2))) ∨ (j = .int .i64 2 ∧ i = .int .i64 (2 * bitI xs (d * 2) + bitI xs (d * 2 + 1)))) (fun _ j => (2 - intOf j).toNat)
  case atStart => exact Or.inl ⟨rfl, rfl⟩
  case round =>
    rcases hrel with ⟨rfl, rfl⟩ | ⟨rfl, rfl⟩ | ⟨rfl, rfl⟩
    · go_wp2_with (go_at_call 20; refine (bit_any xs _ b _ hx (by omega) (by omega) hr).mono ?_; rintro e w' ⟨rfl, rfl⟩)
      go_round
      case rel => exact Or.inr (Or.inl ⟨rfl, rfl⟩)
      case measure => simp [intOf]
    · go_wp2_with (go_at_call 20; refine (bit_any xs _ b _ hx (by omega) (by omega) hr).mono ?_; rintro e w' ⟨rfl, rfl⟩)
      go_round
      case rel => exact Or.inr (Or.inr ⟨rfl, rfl⟩)
      case measure => simp [intOf]
    · go_wp2
      go_ret
      exact ⟨rfl, rfl⟩

/-! ### zzTwo -/
set_option maxHeartbeats 1000000 in
theorem two_any (xs : List Int) (k : Int) (w : World) (hx : Bytes16 xs) (h0 : 0 ≤ k) (h1 : k ≤ 126) :
    Calls Try.prog 15 #[.agg (bl xs).toArray, .int .i64 k] w fun e w' => e = .returned (.int .i64 (2 * bitI xs k + bitI xs (k + 1))) ∧ Below w.heap.size w w' := by
  have hi := info22 hx
  have hk0 := bitI_01 xs k
  have hk1 := bitI_01 xs (k + 1)
  have e1 : IntKind.i64.wrap (k + 1) = k + 1 := IntWalk.i64_in _ (by omega)
  have e2 : IntKind.i64.wrap (bitI xs k) = bitI xs k := IntWalk.i64_in _ (by omega)
  have e3 : IntKind.i64.wrap (bitI xs (k + 1)) = bitI xs (k + 1) := IntWalk.i64_in _ (by omega)
  have e4 : IntKind.i64.wrap (bitI xs k * 2) = bitI xs k * 2 := IntWalk.i64_in _ (by omega)
  have e5 : bits .or .i64 (bitI xs k * 2) (bitI xs (k + 1)) = 2 * bitI xs k + bitI xs (k + 1) := or_two hk0 hk1
  clear hk0 hk1
  have hr := range_new w (bl xs) 22
  go_enter Try.func15, Try.ntmps15
  go_wp2
  generalize hW : w.alloc (.cells (bl xs).toArray 22) = wr at *
  have hsz : wr.heap.size = w.heap.size + 1 := by rw [← hW]; simp
  have hbw : Below w.heap.size w wr := by rw [← hW]; exact (Below.refl _ _).alloc (Nat.le_refl _) _
  clear hW
  refine wp_region_held_drew (S := Below wr.heap.size wr) (by kernel_rfl) (Below.refl _ _).drew (fun hHeld => ?_)
  refine wpAnyH_take (i := 0) (v := .agg (bl xs).toArray) rfl (by kernel_rfl) (by kernel_rfl) (by kernel_rfl) (fun _ _ _ h => h) (yieldsIf_load_mid (by rfl) 22 _ rfl _ 0 rfl (bl xs) _ (fun _ h => range_below h hr (by omega)) Try.underlying22 rfl hi) hHeld ?_
  refine wpAnyH_take (i := 5) (v := .agg (bl xs).toArray) rfl (by kernel_rfl) (by kernel_rfl) (by kernel_rfl) (fun _ _ _ h => h) (yieldsIf_load_mid (by rfl) 22 _ rfl _ 0 rfl (bl xs) _ (fun _ h => range_below h hr (by omega)) Try.underlying22 rfl hi) hHeld ?_
  refine wpAnyH_take (i := 1) (v := .int .i64 k) rfl (by kernel_rfl) (by kernel_rfl) (by kernel_rfl) (fun _ _ _ h => h) (Or.inl ⟨by rfl, fun _ _ => by go_simp⟩) hHeld ?_
  refine wpAnyH_take (i := 6) (v := .int .i64 k) rfl (by kernel_rfl) (by kernel_rfl) (by kernel_rfl) (fun _ _ _ h => h) (Or.inl ⟨by rfl, fun _ _ => by go_simp⟩) hHeld ?_
  try simp only [Act.put, List.getElem_toArray, List.getElem_cons_zero, List.getElem_cons_succ, List.setIfInBounds_toArray, List.set_cons_zero, List.set_cons_succ]
  refine wpAnyH_take (i := 7) (v := .int .i64 (k + 1)) rfl (by kernel_rfl) (by kernel_rfl) (by kernel_rfl) (fun _ _ _ h => h) (Or.inl ⟨by rfl, fun _ _ => by go_simp⟩) hHeld ?_
  try simp only [Act.put, List.getElem_toArray, List.getElem_cons_zero, List.getElem_cons_succ, List.setIfInBounds_toArray, List.set_cons_zero, List.set_cons_succ]
  refine wpAnyH_ready (rs := [2]) (by kernel_rfl) (by simp) ?_
  refine AllReadyH.cons rfl (fun K hK => ?_) AllReadyH.nil
  go_simp
  refine (bitOf_b xs k _ hx (by omega) (by omega)).mono ?_
  rintro e w1 ⟨rfl, hc⟩
  refine hK.out _ _ (below_behind hHeld hc) (fun hHeld => ?_)
  clear hK K hc
  try simp only [Act.put, List.getElem_toArray, List.getElem_cons_zero, List.getElem_cons_succ, List.setIfInBounds_toArray, List.set_cons_zero, List.set_cons_succ]
  refine wpAnyH_take (i := 3) (v := .int .i64 (bitI xs k)) rfl (by kernel_rfl) (by kernel_rfl) (by kernel_rfl) (fun _ _ _ h => h) (Or.inl ⟨by rfl, fun _ _ => by go_simp⟩) hHeld ?_
  try simp only [Act.put, List.getElem_toArray, List.getElem_cons_zero, List.getElem_cons_succ, List.setIfInBounds_toArray, List.set_cons_zero, List.set_cons_succ]
  refine wpAnyH_take (i := 4) (v := .int .i64 (bitI xs k * 2)) rfl (by kernel_rfl) (by kernel_rfl) (by kernel_rfl) (fun _ _ _ h => h) (Or.inl ⟨by rfl, fun _ _ => by go_simp⟩) hHeld ?_
  try simp only [Act.put, List.getElem_toArray, List.getElem_cons_zero, List.getElem_cons_succ, List.setIfInBounds_toArray, List.set_cons_zero, List.set_cons_succ]
  refine wpAnyH_ready (rs := [8]) (by kernel_rfl) (by simp) ?_
  refine AllReadyH.cons rfl (fun K hK => ?_) AllReadyH.nil
  go_simp
  refine (bitOf_b xs (k + 1) _ hx (by omega) (by omega)).mono ?_
  rintro e w2 ⟨rfl, hc⟩
  refine hK.out _ _ (below_behind hHeld hc) (fun hHeld => ?_)
  clear hK K hc
  try simp only [Act.put, List.getElem_toArray, List.getElem_cons_zero, List.getElem_cons_succ, List.setIfInBounds_toArray, List.set_cons_zero, List.set_cons_succ]
  refine wpAnyH_take (i := 9) (v := .int .i64 (bitI xs (k + 1))) rfl (by kernel_rfl) (by kernel_rfl) (by kernel_rfl) (fun _ _ _ h => h) (Or.inl ⟨by rfl, fun _ _ => by go_simp⟩) hHeld ?_
  try simp only [Act.put, List.getElem_toArray, List.getElem_cons_zero, List.getElem_cons_succ, List.setIfInBounds_toArray, List.set_cons_zero, List.set_cons_succ]
  refine wpAnyH_take (i := 10) (v := .int .i64 (2 * bitI xs k + bitI xs (k + 1))) rfl (by kernel_rfl) (by kernel_rfl) (by kernel_rfl) (fun _ _ _ h => h) (Or.inl ⟨by rfl, fun _ _ => by go_simp⟩) hHeld ?_
  try simp only [Act.put, List.getElem_toArray, List.getElem_cons_zero, List.getElem_cons_succ, List.setIfInBounds_toArray, List.set_cons_zero, List.set_cons_succ]
  refine wpAnyH_take (i := 11) (v := .int .i64 (2 * bitI xs k + bitI xs (k + 1))) rfl (by kernel_rfl) (by kernel_rfl) (by kernel_rfl) (fun _ _ _ h => h) (Or.inl ⟨by rfl, fun _ _ => by go_simp⟩) hHeld ?_
  try simp only [Act.put, List.getElem_toArray, List.getElem_cons_zero, List.getElem_cons_succ, List.setIfInBounds_toArray, List.set_cons_zero, List.set_cons_succ]
  refine wpAnyH_done (by kernel_rfl) ?_ _
  go_wp2
  go_ret
  exact ⟨rfl, hbw.trans (hHeld.mono (by omega))⟩
end Go.Proofs.Qxb6621689a
