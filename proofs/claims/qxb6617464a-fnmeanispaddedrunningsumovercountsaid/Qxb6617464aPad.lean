import Derived.Test.Qxb6617464aMean
namespace Go.Proofs.Qxb6617464a
open Go.RowKit
set_option linter.unusedSimpArgs false
set_option linter.unusedVariables false
attribute [local go_sem] run_store_float

/-- A row of n zero measures, just made. -/
structure Made (n : Nat) (w w' : World) : Prop where
  bel : Below w.heap.size w w'
  size : w'.heap.size = w.heap.size + 1
  four : ∀ k, k < n → Four w' w.heap.size (k * 4) 0 0 0 0
  opens : ∀ o, Open4 w' w.heap.size o

theorem info28 : (Try.prog.info? 28).map (fun i => (i.size, i.bytes, i.zero)) = some (4, 32, some (.agg #[.float .f64 0, .float .f64 0, .float .f64 0, .float .f64 0])) := by kernel_rfl

theorem made_any (n : Nat) (w : World) (h : n ≤ 8192) : ∃ w', (Instr.makeSlice 30 (.int .i64 n) (.int .i64 n)).run Try.prog w = .ok (.slice (some ⟨w.heap.size, 0, none⟩) n n) w' ∧ Made n w w' := by
  have hi := info28
  obtain ⟨i, hi1, hi2⟩ := Option.map_eq_some_iff.1 hi
  simp only [Prod.mk.injEq] at hi2
  obtain ⟨h4, h32, hz⟩ := hi2
  have hr := run_make (P := Try.prog) w 30 28 i _ Try.underlying30 hi1 hz .i64 .i64 (n : Int) (n : Int) (by omega) (by omega) (by rw [h32]; omega) (by omega)
  refine ⟨_, hr, (Below.refl _ _).alloc (Nat.le_refl _) _, by simp, fun k hk => ?_, fun o => ?_⟩
  · rw [h4]
    have hg := heap_alloc_new w (.cells (madeCells (Value.agg #[.float .f64 0, .float .f64 0, .float .f64 0, .float .f64 0]).cells ((n : Int).toNat * 4)) 28)
    have key : ∀ j, j < 4 → (w.alloc (.cells (madeCells (Value.agg #[.float .f64 0, .float .f64 0, .float .f64 0, .float .f64 0]).cells ((n : Int).toNat * 4)) 28)).cell? ⟨w.heap.size, k * 4 + j, none⟩ = some (.float .f64 0) := fun j hj => by
      rw [cell_of_row _ _ _ _ _ _ hg]
      have hb : k * 4 + j < n * 4 := by omega
      have hm : (k * 4 + j) % 4 = j := by omega
      simp [madeCells, Value.cells, hb, hm]
      match j, hj with
      | 0, _ => rfl
      | 1, _ => rfl
      | 2, _ => rfl
      | 3, _ => rfl
    exact ⟨key 0 (by omega), key 1 (by omega), key 2 (by omega), key 3 (by omega)⟩
  · have hg := heap_alloc_new w (.cells (madeCells (Value.agg #[.float .f64 0, .float .f64 0, .float .f64 0, .float .f64 0]).cells ((n : Int).toNat * i.size)) 28)
    have key : ∀ j, (w.alloc (.cells (madeCells (Value.agg #[.float .f64 0, .float .f64 0, .float .f64 0, .float .f64 0]).cells ((n : Int).toNat * i.size)) 28)).frozen? ⟨w.heap.size, j, none⟩ = false := fun j => by
      unfold World.frozen?
      show (match (w.alloc (.cells (madeCells (Value.agg #[.float .f64 0, .float .f64 0, .float .f64 0, .float .f64 0]).cells ((n : Int).toNat * i.size)) 28)).heap[w.heap.size]? with | some (Obj.cells c elem (lo, hi)) => decide (lo ≤ j) && decide (j < hi) | x => false) = false
      rw [hg]; simp
    exact ⟨key _, key _, key _, key _⟩

theorem made_pad (w : World) : ∃ w', (Instr.makeSlice 30 (.int .i64 8192) (.int .i64 8192)).run Try.prog w = .ok (.slice (some ⟨w.heap.size, 0, none⟩) 8192 8192) w' ∧ Made 8192 w w' := made_any 8192 w (by omega)

/-- The argument list: n measures, from the cell oa of the block ga on. -/
structure Arg (w : World) (A : Nat → Nat → Nat) (ao : Option Addr) (ga oa n : Nat) : Prop where
  at_ : 0 < n → ao = some ⟨ga, oa, none⟩
  four : ∀ k, k < n → Four w ga (oa + k * 4) (A 0 k) (A 1 k) (A 2 k) (A 3 k)
theorem arg_lt {w : World} {A : Nat → Nat → Nat} {ao : Option Addr} {ga oa n : Nat} (h : Arg w A ao ga oa n) (hn : 0 < n) : ga < w.heap.size := World.block_lt_of_cell? _ _ (h.four 0 hn).c0
theorem arg_below {w w' : World} {A : Nat → Nat → Nat} {ao : Option Addr} {ga oa n : Nat} (h : Arg w A ao ga oa n) (hb : Below w.heap.size w w') : Arg w' A ao ga oa n :=
  ⟨h.at_, fun k hk => four_below hb (h.four k hk) (arg_lt h (by omega))⟩

/-- A list of N measures in a block of its own, that may be written. -/
structure Row (N : Nat) (w : World) (g : Nat) (P : Nat → Nat → Nat) : Prop where
  four : ∀ k, k < N → Four w g (k * 4) (P 0 k) (P 1 k) (P 2 k) (P 3 k)
  opens : ∀ o, Open4 w g o
/-- The list with the element k written. -/
def with_ (P : Nat → Nat → Nat) (k : Nat) (t : Nat → Nat) (f j : Nat) : Nat := if j = k then t f else P f j
theorem row_put {N : Nat} {w : World} {g : Nat} {P : Nat → Nat → Nat} (h : Row N w g P) {k : Nat} (hk : k < N) (t : Nat → Nat) : Row N (put4 w g (k * 4) (t 0) (t 1) (t 2) (t 3)) g (with_ P k t) := by
  refine ⟨fun j hj => ?_, fun o => open_put (h.opens o) _ _ _ _⟩
  by_cases e : j = k
  · subst e
    simp only [with_, if_true]
    exact four_put (h.four j hj) _ _ _ _
  · simp only [with_, if_neg e]
    exact four_apart (h.four j hj) _ _ _ _ (Or.inr (by omega))
theorem row_below {N B : Nat} {w w' : World} {g : Nat} {P : Nat → Nat → Nat} (h : Row N w g P) (hb : Below B w w') (hg : g < B) : Row N w' g P :=
  ⟨fun k hk => four_below hb (h.four k hk) hg, fun o => open_below hb (h.opens o) hg⟩
theorem row_same {N : Nat} {w : World} {g : Nat} {P P' : Nat → Nat → Nat} (h : Row N w g P) (e : ∀ f j, j < N → P f j = P' f j) : Row N w g P' :=
  ⟨fun k hk => by rw [← e 0 k hk, ← e 1 k hk, ← e 2 k hk, ← e 3 k hk]; exact h.four k hk, h.opens⟩
/-- The argument's first k elements, then zeros. -/
def part (A : Nat → Nat → Nat) (k f j : Nat) : Nat := if j < k then A f j else 0
theorem part_with (A : Nat → Nat → Nat) (k f j : Nat) : with_ (part A k) k (fun f => A f k) f j = part A (k + 1) f j := by
  simp only [with_, part]
  by_cases e : j = k
  · subst e; simp
  · by_cases l : j < k
    · rw [if_neg e, if_pos l, if_pos (by omega)]
    · rw [if_neg e, if_neg l, if_neg (by omega)]

set_option maxRecDepth 100000 in
set_option maxHeartbeats 2000000 in
theorem padded_any (A : Nat → Nat → Nat) (X : Nat → Nat) (ao : Option Addr) (ga oa n cap : Nat) (b : Bool) (w : World) (hn : n ≤ 4096) (ha : Arg w A ao ga oa n) :
    Calls Try.prog 7 #[.slice ao n cap, .agg #[.float .f64 (X 0), .float .f64 (X 1), .float .f64 (X 2), .float .f64 (X 3)], .bool b] w fun e w' => ∃ g, e = .returned (.slice (some ⟨g, 0, none⟩) 8192 8192) ∧ Below w.heap.size w w' ∧ w.heap.size ≤ g ∧ g < w'.heap.size ∧
      Row 8192 w' g (if b = true then with_ (part A n) n X else part A n) := by
  have HA := hidden ha
  clear ha
  have HB := (Below.refl w.heap.size w).alloc (Nat.le_refl _) (.cells #[.float .f64 (X 0), .float .f64 (X 1), .float .f64 (X 2), .float .f64 (X 3)] 25)
  have hf := four_new w (X 0) (X 1) (X 2) (X 3) 25
  have es : (w.alloc (.cells #[.float .f64 (X 0), .float .f64 (X 1), .float .f64 (X 2), .float .f64 (X 3)] 25)).heap.size = w.heap.size + 1 := by simp
  obtain ⟨w1, hm, hmade⟩ := made_pad (w.alloc (.cells #[.float .f64 (X 0), .float .f64 (X 1), .float .f64 (X 2), .float .f64 (X 3)] 25))
  obtain ⟨hbel, hsize, hfour, hopens⟩ := hmade
  rw [es] at hbel hsize hfour hopens hm
  have HS : Hid (Below w.heap.size w w1 ∧ Four w1 w.heap.size 0 (X 0) (X 1) (X 2) (X 3) ∧ Row 8192 w1 (w.heap.size + 1) (part A 0) ∧ w.heap.size + 1 + 1 ≤ w1.heap.size) :=
    ⟨HB.trans (hbel.mono (by omega)), four_below hbel hf (by omega), ⟨fun k hk => by simpa [part] using hfour k hk, hopens⟩, by omega⟩
  clear hbel hsize hfour hopens HB hf es
  generalize hx0 : X 0 = x0 at *
  generalize hx1 : X 1 = x1 at *
  generalize hx2 : X 2 = x2 at *
  generalize hx3 : X 3 = x3 at *
  have HX := hidden (And.intro hx0 (And.intro hx1 (And.intro hx2 hx3)))
  clear hx0 hx1 hx2 hx3
  go_enter Try.func7, Try.ntmps7
  go_wp2
  clear hm
  go_loopw [8] (fun i wr => ∃ k, k ≤ n ∧ i = .int .i64 k ∧ Hid (Below w.heap.size w wr ∧ Four wr w.heap.size 0 x0 x1 x2 x3 ∧ Row 8192 wr (w.heap.size + 1) (part A k) ∧ w.heap.size + 1 + 1 ≤ wr.heap.size)) (fun i _ => (8193 - intOf i).toNat)
  case atStart => exact ⟨0, by omega, rfl, HS⟩
  case round =>
    clear HS
    obtain ⟨k, hk, rfl, HS⟩ := hrel
    by_cases hlt : k < n
    · have hao := HA.out.at_ (by omega)
      have hga := arg_lt HA.out (by omega)
      subst hao
      obtain ⟨a0, a1, a2, a3⟩ := four_below HS.out.1 (HA.out.four k hlt) hga
      have HG := hidden hga
      clear hga
      generalize hp0 : A 0 k = p0 at *
      generalize hp1 : A 1 k = p1 at *
      generalize hp2 : A 2 k = p2 at *
      generalize hp3 : A 3 k = p3 at *
      have HP := hidden (And.intro hp0 (And.intro hp1 (And.intro hp2 hp3)))
      clear hp0 hp1 hp2 hp3
      go_wp2_with fail
      refine (toeval_any p0 p1 p2 p3 _).mono ?_
      rintro e w2 ⟨rfl, hb2⟩
      obtain ⟨hb, hfx, hrow, hsz⟩ := HS.out
      have hrow2 := row_below hrow hb2 (by omega)
      have HS2 := hidden (And.intro (hb.trans (hb2.mono hb.size)) (And.intro (four_below hb2 hfx (by omega)) (And.intro hrow2 (Nat.le_trans hsz hb2.size))))
      obtain ⟨y0, y1, y2, y3⟩ := hrow2.four k (by omega)
      obtain ⟨z0, z1, z2, z3⟩ := hrow2.opens (k * 4)
      clear hb hfx hrow hsz hrow2 hb2 HS a0 a1 a2 a3
      go_wp2
      go_roundw
      case rel =>
        obtain ⟨hb, hfx, hrow, hsz⟩ := HS2.out
        obtain ⟨rfl, rfl, rfl, rfl⟩ := HP.out
        refine ⟨k + 1, by omega, by go_num, ?_⟩
        have hr := row_same (row_put hrow (k := k) (by omega) (fun f => A f k)) (P' := part A (k + 1)) (fun f j _ => part_with A k f j)
        exact ⟨below_put hb (by omega) (k * 4) _ _ _ _, four_apart hfx _ _ _ _ (Or.inl (by omega)), hr, Nat.le_trans hsz (Nat.le_of_eq (size_put w2 (w.heap.size + 1) (k * 4) (A 0 k) (A 1 k) (A 2 k) (A 3 k)).symm)⟩
      case measure => simp [intOf]; omega
    · have hkn : k = n := by omega
      subst hkn
      have hge : ¬ (k : Int) < (k : Int) := by omega
      cases b with
      | false =>
        go_wp2
        go_ret
        obtain ⟨hb, hfx, hrow, hsz⟩ := HS.out
        exact ⟨_, rfl, hb, by omega, by omega, by simpa using hrow⟩
      | true =>
        obtain ⟨x0', x1', x2', x3'⟩ := HS.out.2.1
        simp only [Nat.zero_add] at x1' x2' x3'
        go_wp2_with fail
        refine (toeval_any x0 x1 x2 x3 _).mono ?_
        rintro e w2 ⟨rfl, hb2⟩
        obtain ⟨hb, hfx, hrow, hsz⟩ := HS.out
        have hrow2 := row_below hrow hb2 (by omega)
        have HS2 := hidden (And.intro (hb.trans (hb2.mono hb.size)) (And.intro hrow2 (Nat.le_trans hsz hb2.size)))
        obtain ⟨y0, y1, y2, y3⟩ := hrow2.four k (by omega)
        obtain ⟨z0, z1, z2, z3⟩ := hrow2.opens (k * 4)
        clear hb hfx hrow hsz hrow2 hb2 HS x0' x1' x2' x3'
        go_wp2
        go_ret
        obtain ⟨hb, hrow, hsz⟩ := HS2.out
        obtain ⟨rfl, rfl, rfl, rfl⟩ := HX.out
        refine ⟨_, rfl, below_put hb (by omega) (k * 4) _ _ _ _, by omega, ?_, ?_⟩
        · exact Nat.lt_of_lt_of_le (by omega) (Nat.le_of_eq (size_put w2 (w.heap.size + 1) (k * 4) (X 0) (X 1) (X 2) (X 3)).symm)
        · exact row_put hrow (by omega) X
end Go.Proofs.Qxb6617464a
