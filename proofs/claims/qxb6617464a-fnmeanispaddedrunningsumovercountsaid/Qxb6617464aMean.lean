import Derived.Test.Qxb6617464aSmall
import Derived.Deep.MidRow
namespace Go.Proofs.Qxb6617464a
open Go.RowKit
set_option linter.unusedSimpArgs false
set_option linter.unusedVariables false
attribute [local go_sem] run_store_float

/-- The running sum of k words. -/
def rs (e : Nat → Nat) : Nat → Nat
  | 0 => 0
  | k + 1 => (Ieee.double.add (rs e k) (e k)).getD 0

/-- Four cells that hold floats. -/
structure Four (w : World) (b o p0 p1 p2 p3 : Nat) : Prop where
  c0 : w.cell? ⟨b, o, none⟩ = some (.float .f64 p0)
  c1 : w.cell? ⟨b, o + 1, none⟩ = some (.float .f64 p1)
  c2 : w.cell? ⟨b, o + 2, none⟩ = some (.float .f64 p2)
  c3 : w.cell? ⟨b, o + 3, none⟩ = some (.float .f64 p3)
/-- Four cells that may be written. -/
structure Open4 (w : World) (b o : Nat) : Prop where
  f0 : w.frozen? ⟨b, o, none⟩ = false
  f1 : w.frozen? ⟨b, o + 1, none⟩ = false
  f2 : w.frozen? ⟨b, o + 2, none⟩ = false
  f3 : w.frozen? ⟨b, o + 3, none⟩ = false
theorem four_below {B : Nat} {w w' : World} (h : Below B w w') {b o p0 p1 p2 p3 : Nat} (hf : Four w b o p0 p1 p2 p3) (hb : b < B) : Four w' b o p0 p1 p2 p3 :=
  ⟨by rw [h.cell (p := ⟨b, o, none⟩) hb]; exact hf.c0, by rw [h.cell (p := ⟨b, o + 1, none⟩) hb]; exact hf.c1, by rw [h.cell (p := ⟨b, o + 2, none⟩) hb]; exact hf.c2, by rw [h.cell (p := ⟨b, o + 3, none⟩) hb]; exact hf.c3⟩

theorem four_new (w : World) (p0 p1 p2 p3 : Nat) (t : TypeId) : Four (w.alloc (.cells #[.float .f64 p0, .float .f64 p1, .float .f64 p2, .float .f64 p3] t)) w.heap.size 0 p0 p1 p2 p3 := by
  have hg := heap_alloc_new w (.cells #[.float .f64 p0, .float .f64 p1, .float .f64 p2, .float .f64 p3] t)
  exact ⟨by rw [cell_of_row _ _ _ _ _ _ hg]; rfl, by rw [cell_of_row _ _ _ _ _ _ hg]; rfl, by rw [cell_of_row _ _ _ _ _ _ hg]; rfl, by rw [cell_of_row _ _ _ _ _ _ hg]; rfl⟩
theorem open_new (w : World) (cs : Array Value) (t : TypeId) : Open4 (w.alloc (.cells cs t)) w.heap.size 0 := by
  have hg := heap_alloc_new w (.cells cs t)
  have key : ∀ j, (w.alloc (.cells cs t)).frozen? ⟨w.heap.size, j, none⟩ = false := fun j => by
    unfold World.frozen?
    show (match (w.alloc (.cells cs t)).heap[w.heap.size]? with | some (Obj.cells c elem (lo, hi)) => decide (lo ≤ j) && decide (j < hi) | x => false) = false
    rw [hg]; simp
  exact ⟨key _, key _, key _, key _⟩
theorem open_below {B : Nat} {w w' : World} (h : Below B w w') {b o : Nat} (hf : Open4 w b o) (hb : b < B) : Open4 w' b o :=
  ⟨by rw [h.frozen (p := ⟨b, o, none⟩) hb]; exact hf.f0, by rw [h.frozen (p := ⟨b, o + 1, none⟩) hb]; exact hf.f1, by rw [h.frozen (p := ⟨b, o + 2, none⟩) hb]; exact hf.f2, by rw [h.frozen (p := ⟨b, o + 3, none⟩) hb]; exact hf.f3⟩

/-- Four cells written. -/
def put4 (w : World) (b o t0 t1 t2 t3 : Nat) : World := (((w.setCell ⟨b, o, none⟩ (.float .f64 t0)).setCell ⟨b, o + 1, none⟩ (.float .f64 t1)).setCell ⟨b, o + 2, none⟩ (.float .f64 t2)).setCell ⟨b, o + 3, none⟩ (.float .f64 t3)
theorem cell_put (w : World) (b o t0 t1 t2 t3 : Nat) (a : Addr) (ha : a.block ≠ b ∨ a.off < o ∨ o + 4 ≤ a.off) : (put4 w b o t0 t1 t2 t3).cell? a = w.cell? a := by
  unfold put4
  rw [World.cell?_setCell_other _ _ _ _ (by rintro rfl; simp at ha; omega), World.cell?_setCell_other _ _ _ _ (by rintro rfl; simp at ha; omega), World.cell?_setCell_other _ _ _ _ (by rintro rfl; simp at ha; omega), World.cell?_setCell_other _ _ _ _ (by rintro rfl; simp at ha; omega)]
theorem frozen_put (w : World) (b o t0 t1 t2 t3 : Nat) (a : Addr) : (put4 w b o t0 t1 t2 t3).frozen? a = w.frozen? a := by
  unfold put4
  rw [World.frozen?_setCell, World.frozen?_setCell, World.frozen?_setCell, World.frozen?_setCell]
theorem four_put {w : World} {b o s0 s1 s2 s3 : Nat} (h : Four w b o s0 s1 s2 s3) (t0 t1 t2 t3 : Nat) : Four (put4 w b o t0 t1 t2 t3) b o t0 t1 t2 t3 := by
  obtain ⟨h0, h1, h2, h3⟩ := h
  have n01 : (⟨b, o, none⟩ : Addr) ≠ ⟨b, o + 1, none⟩ := by simp
  have n02 : (⟨b, o, none⟩ : Addr) ≠ ⟨b, o + 2, none⟩ := by simp
  have n03 : (⟨b, o, none⟩ : Addr) ≠ ⟨b, o + 3, none⟩ := by simp
  have n12 : (⟨b, o + 1, none⟩ : Addr) ≠ ⟨b, o + 2, none⟩ := by simp
  have n13 : (⟨b, o + 1, none⟩ : Addr) ≠ ⟨b, o + 3, none⟩ := by simp
  have n23 : (⟨b, o + 2, none⟩ : Addr) ≠ ⟨b, o + 3, none⟩ := by simp
  unfold put4
  refine ⟨?_, ?_, ?_, ?_⟩
  · rw [World.cell?_setCell_other _ _ _ _ n03.symm, World.cell?_setCell_other _ _ _ _ n02.symm, World.cell?_setCell_other _ _ _ _ n01.symm, World.cell?_setCell_same _ _ _ h0]
  · rw [World.cell?_setCell_other _ _ _ _ n13.symm, World.cell?_setCell_other _ _ _ _ n12.symm]
    exact World.cell?_setCell_same _ _ _ (by rw [World.cell?_setCell_other _ _ _ _ n01]; exact h1)
  · rw [World.cell?_setCell_other _ _ _ _ n23.symm]
    exact World.cell?_setCell_same _ _ _ (by rw [World.cell?_setCell_other _ _ _ _ n12, World.cell?_setCell_other _ _ _ _ n02]; exact h2)
  · exact World.cell?_setCell_same _ _ _ (by rw [World.cell?_setCell_other _ _ _ _ n23, World.cell?_setCell_other _ _ _ _ n13, World.cell?_setCell_other _ _ _ _ n03]; exact h3)
theorem four_apart {w : World} {b o b' o' s0 s1 s2 s3 : Nat} (h : Four w b' o' s0 s1 s2 s3) (t0 t1 t2 t3 : Nat) (ha : b' ≠ b ∨ o' + 4 ≤ o ∨ o + 4 ≤ o') : Four (put4 w b o t0 t1 t2 t3) b' o' s0 s1 s2 s3 := by
  obtain ⟨h0, h1, h2, h3⟩ := h
  exact ⟨by rw [cell_put _ _ _ _ _ _ _ _ (by simp; omega)]; exact h0, by rw [cell_put _ _ _ _ _ _ _ _ (by simp; omega)]; exact h1, by rw [cell_put _ _ _ _ _ _ _ _ (by simp; omega)]; exact h2, by rw [cell_put _ _ _ _ _ _ _ _ (by simp; omega)]; exact h3⟩
theorem open_put {w : World} {b o b' o' : Nat} (h : Open4 w b' o') (t0 t1 t2 t3 : Nat) : Open4 (put4 w b o t0 t1 t2 t3) b' o' :=
  ⟨by rw [frozen_put]; exact h.f0, by rw [frozen_put]; exact h.f1, by rw [frozen_put]; exact h.f2, by rw [frozen_put]; exact h.f3⟩
theorem below_put {B : Nat} {a w : World} (h : Below B a w) {b : Nat} (hb : B ≤ b) (o t0 t1 t2 t3 : Nat) : Below B a (put4 w b o t0 t1 t2 t3) := by
  unfold put4
  exact (((h.setCell (p := ⟨b, o, none⟩) hb _).setCell (p := ⟨b, o + 1, none⟩) hb _).setCell (p := ⟨b, o + 2, none⟩) hb _).setCell (p := ⟨b, o + 3, none⟩) hb _
theorem size_put (w : World) (b o t0 t1 t2 t3 : Nat) : (put4 w b o t0 t1 t2 t3).heap.size = w.heap.size := by simp [put4, World.setCell]

theorem range_four {w : World} {b o p0 p1 p2 p3 : Nat} (h : Four w b o p0 p1 p2 p3) : w.rangeAt b o [.float .f64 p0, .float .f64 p1, .float .f64 p2, .float .f64 p3] := fun j v hv => by
  match j with
  | 0 => simp at hv; subst hv; exact h.c0
  | 1 => simp at hv; subst hv; exact h.c1
  | 2 => simp at hv; subst hv; exact h.c2
  | 3 => simp at hv; subst hv; exact h.c3
  | j + 4 => simp at hv
theorem results_mid {P : Program} {fn : Func} {p : Tmp} {ty : TypeId} (h : fn.results = #[.cell p ty]) (tmps : Array Value) (w : World) (b : Nat) (cs : List Value) (d : TypeDesc)
    (hp : tmps.getD p undef = .pointer (some ⟨b, 0, none⟩)) (hc : w.rangeAt b 0 cs)
    (hu : P.underlying ty = some d) (hd : d.isRow = true) (hi : (P.info? ty).map (·.size) = some cs.length) :
    (results fn tmps).run P w = .ok (.agg cs.toArray) w := by
  have hp' : tmps[p]?.getD undef = .pointer (some ⟨b, 0, none⟩) := by simpa using hp
  simp [results, h, hp', asAddr, run_loadVar_mid w b 0 ty cs d hc hu hd hi]
theorem size28 : (Try.prog.info? 28).map (·.size) = some 4 := by kernel_rfl

theorem arith {op : BinOp} {x y r : Nat} (h : floatBits op .f64 x y = some r) (t : TypeId) : ∀ w, (binOp op t (.float .f64 x) (.float .f64 y)).run Try.prog w = .ok (.float .f64 r) w := fun w => run_float_arith w op t .f64 x y r h

set_option maxRecDepth 100000 in
set_option maxHeartbeats 2000000 in
theorem mean_any (E : Nat → Nat → Nat) (g n cap : Nat) (q0 q1 q2 q3 : Nat) (w : World) (hn1 : 1 ≤ n) (hn : n ≤ 8192)
    (hc : ∀ k, k < n → Four w g (k * 4) (E 0 k) (E 1 k) (E 2 k) (E 3 k))
    (hadd : ∀ f, f < 4 → ∀ k, k < n → Ieee.double.add (rs (E f) k) (E f k) = some (rs (E f) (k + 1)))
    (hq0 : Ieee.double.div (rs (E 0) n) (floatOfInt .f64 n) = some q0) (hq1 : Ieee.double.div (rs (E 1) n) (floatOfInt .f64 n) = some q1)
    (hq2 : Ieee.double.div (rs (E 2) n) (floatOfInt .f64 n) = some q2) (hq3 : Ieee.double.div (rs (E 3) n) (floatOfInt .f64 n) = some q3) :
    Calls Try.prog 6 #[.slice (some ⟨g, 0, none⟩) n cap] w fun e w' => e = .returned (.agg #[.float .f64 q0, .float .f64 q1, .float .f64 q2, .float .f64 q3]) ∧ Below w.heap.size w w' := by
  have hgl : g < w.heap.size := World.block_lt_of_cell? _ _ (hc 0 (by omega)).c0
  have HC := hidden hc
  have HA := hidden hadd
  have HQ := hidden (And.intro hq0 (And.intro hq1 (And.intro hq2 hq3)))
  clear hc hadd hq0 hq1 hq2 hq3
  go_enter Try.func6, Try.ntmps6
  go_wp2
  have hb0 : Below w.heap.size w ((w.alloc (.cells #[.float .f64 0, .float .f64 0, .float .f64 0, .float .f64 0] 28)).alloc (.cells #[.float .f64 0, .float .f64 0, .float .f64 0, .float .f64 0] 28)) := ((Below.refl _ _).alloc (Nat.le_refl _) _).alloc (by simp) _
  have hsz0 : ((w.alloc (.cells #[.float .f64 0, .float .f64 0, .float .f64 0, .float .f64 0] 28)).alloc (.cells #[.float .f64 0, .float .f64 0, .float .f64 0, .float .f64 0] 28)).heap.size = w.heap.size + 1 + 1 := by simp
  have es : (w.alloc (.cells #[.float .f64 0, .float .f64 0, .float .f64 0, .float .f64 0] 28)).heap.size = w.heap.size + 1 := by simp
  have hF2 := four_below ((Below.refl _ _).alloc (Nat.le_refl _) (.cells #[.float .f64 0, .float .f64 0, .float .f64 0, .float .f64 0] 28)) (four_new w 0 0 0 0 28) (by rw [es]; omega)
  have hO2 := open_below ((Below.refl _ _).alloc (Nat.le_refl _) (.cells #[.float .f64 0, .float .f64 0, .float .f64 0, .float .f64 0] 28)) (open_new w #[.float .f64 0, .float .f64 0, .float .f64 0, .float .f64 0] 28) (by rw [es]; omega)
  have hF3 := four_new (w.alloc (.cells #[.float .f64 0, .float .f64 0, .float .f64 0, .float .f64 0] 28)) 0 0 0 0 28
  have hO3 := open_new (w.alloc (.cells #[.float .f64 0, .float .f64 0, .float .f64 0, .float .f64 0] 28)) #[.float .f64 0, .float .f64 0, .float .f64 0, .float .f64 0] 28
  rw [es] at hF3 hO3
  generalize (w.alloc (.cells #[.float .f64 0, .float .f64 0, .float .f64 0, .float .f64 0] 28)).alloc (.cells #[.float .f64 0, .float .f64 0, .float .f64 0, .float .f64 0] 28) = w0 at *
  have HS := hidden (And.intro hb0 (And.intro hF2 (And.intro hO2 (And.intro hF3 (And.intro hO3 (Nat.le_of_eq hsz0.symm))))))
  clear hb0 hF2 hO2 hF3 hO3 hsz0 es
  go_loopw [9] (fun i wr => ∃ (k s0 s1 s2 s3 : Nat), k ≤ n ∧ i = .int .i64 k ∧ Hid (s0 = rs (E 0) k ∧ s1 = rs (E 1) k ∧ s2 = rs (E 2) k ∧ s3 = rs (E 3) k) ∧ Hid (Below w.heap.size w wr ∧ Four wr w.heap.size 0 0 0 0 0 ∧ Open4 wr w.heap.size 0 ∧ Four wr (w.heap.size + 1) 0 s0 s1 s2 s3 ∧ Open4 wr (w.heap.size + 1) 0 ∧ w.heap.size + 1 + 1 ≤ wr.heap.size)) (fun i _ => (8193 - intOf i).toNat)
  case atStart => exact ⟨0, 0, 0, 0, 0, by omega, rfl, ⟨rfl, rfl, rfl, rfl⟩, HS⟩
  case round =>
    clear HS
    obtain ⟨k, s0, s1, s2, s3, hk, rfl, HR, HS⟩ := hrel
    by_cases hlt : k < n
    · obtain ⟨hb, hF2, hO2, hF3, hO3, hsz⟩ := HS.out
      have hm := four_below hb (HC.out k hlt) hgl
      obtain ⟨a0, a1, a2, a3⟩ := hm
      have HB := hidden (And.intro hb (And.intro hF2 hO2))
      have hA0 := arith (op := .add) (HA.out 0 (by omega) k hlt) 23
      have hA1 := arith (op := .add) (HA.out 1 (by omega) k hlt) 23
      have hA2 := arith (op := .add) (HA.out 2 (by omega) k hlt) 23
      have hA3 := arith (op := .add) (HA.out 3 (by omega) k hlt) 23
      obtain ⟨e0, e1, e2, e3⟩ := HR.out
      rw [← e0] at hA0
      rw [← e1] at hA1
      rw [← e2] at hA2
      rw [← e3] at hA3
      generalize ht0 : rs (E 0) (k + 1) = t0 at hA0
      generalize ht1 : rs (E 1) (k + 1) = t1 at hA1
      generalize ht2 : rs (E 2) (k + 1) = t2 at hA2
      generalize ht3 : rs (E 3) (k + 1) = t3 at hA3
      have HT : Hid (t0 = rs (E 0) (k + 1) ∧ t1 = rs (E 1) (k + 1) ∧ t2 = rs (E 2) (k + 1) ∧ t3 = rs (E 3) (k + 1)) := ⟨ht0.symm, ht1.symm, ht2.symm, ht3.symm⟩
      generalize E 0 k = p0 at *
      generalize E 1 k = p1 at *
      generalize E 2 k = p2 at *
      generalize E 3 k = p3 at *
      have hba : Below wr.heap.size wr (wr.alloc (.cells #[.float .f64 p0, .float .f64 p1, .float .f64 p2, .float .f64 p3] 28)) := (Below.refl _ _).alloc (Nat.le_refl _) _
      obtain ⟨x0, x1, x2, x3⟩ := four_below hba hF3 (by omega)
      obtain ⟨z0, z1, z2, z3⟩ := open_below hba hO3 (by omega)
      simp only [Nat.zero_add] at x1 x2 x3 z1 z2 z3
      clear hF3 hO3 hba
      clear ht0 ht1 ht2 ht3 e0 e1 e2 e3 hb hF2 hO2
      have HX : Hid (Four (wr.alloc (.cells #[.float .f64 p0, .float .f64 p1, .float .f64 p2, .float .f64 p3] 28)) (w.heap.size + 1) 0 s0 s1 s2 s3 ∧ Open4 (wr.alloc (.cells #[.float .f64 p0, .float .f64 p1, .float .f64 p2, .float .f64 p3] 28)) (w.heap.size + 1) 0) := ⟨⟨x0, x1, x2, x3⟩, ⟨z0, z1, z2, z3⟩⟩
      go_wp2
      go_roundw
      case rel =>
        obtain ⟨hb, hF2, hO2⟩ := HB.out
        obtain ⟨hX, hZ⟩ := HX.out
        have hba : Below wr.heap.size wr (wr.alloc (.cells #[.float .f64 p0, .float .f64 p1, .float .f64 p2, .float .f64 p3] 28)) := (Below.refl _ _).alloc (Nat.le_refl _) _
        refine ⟨k + 1, t0, t1, t2, t3, by omega, by go_num, HT, ?_⟩
        show Below w.heap.size w (put4 (wr.alloc (.cells #[.float .f64 p0, .float .f64 p1, .float .f64 p2, .float .f64 p3] 28)) (w.heap.size + 1) 0 t0 t1 t2 t3) ∧ _
        refine ⟨below_put (hb.trans (hba.mono hb.size)) (by omega) _ _ _ _ _, four_apart (four_below hba hF2 (by omega)) _ _ _ _ (Or.inl (by omega)), open_put (open_below hba hO2 (by omega)) _ _ _ _, four_put hX _ _ _ _, open_put hZ _ _ _ _, ?_⟩
        show _ ≤ (put4 (wr.alloc (.cells #[.float .f64 p0, .float .f64 p1, .float .f64 p2, .float .f64 p3] 28)) (w.heap.size + 1) 0 t0 t1 t2 t3).heap.size
        rw [size_put]; simp; omega
      case measure => simp [intOf]; omega
    · have hkn : k = n := by omega
      obtain ⟨hb, hF2, hO2, hF3, hO3, hsz⟩ := HS.out
      obtain ⟨x0, x1, x2, x3⟩ := hF3
      obtain ⟨y0, y1, y2, y3⟩ := hF2
      obtain ⟨z0, z1, z2, z3⟩ := hO2
      simp only [Nat.zero_add] at x1 x2 x3 y1 y2 y3 z1 z2 z3
      obtain ⟨e0, e1, e2, e3⟩ := HR.out
      obtain ⟨d0, d1, d2, d3⟩ := HQ.out
      rw [← hkn, ← e0] at d0
      rw [← hkn, ← e1] at d1
      rw [← hkn, ← e2] at d2
      rw [← hkn, ← e3] at d3
      have hQ0 := arith (op := .quo) d0 23
      have hQ1 := arith (op := .quo) d1 23
      have hQ2 := arith (op := .quo) d2 23
      have hQ3 := arith (op := .quo) d3 23
      have HB := hidden hb
      have HN := hidden hkn
      have hge : ¬ (k : Int) < (n : Int) := by omega
      rw [hkn] at hQ0 hQ1 hQ2 hQ3
      clear d0 d1 d2 d3 e0 e1 e2 e3 hkn hb hO3 HR HS
      have HF := hidden (four_put (w := wr) (b := w.heap.size) (o := 0) ⟨y0, y1, y2, y3⟩ q0 q1 q2 q3)
      go_wp2
      refine bodyPost_ret (v := .agg #[.float .f64 q0, .float .f64 q1, .float .f64 q2, .float .f64 q3]) (results_mid Try.results6 _ _ w.heap.size [.float .f64 q0, .float .f64 q1, .float .f64 q2, .float .f64 q3] _ rfl (range_four HF.out) Try.underlying28 rfl size28) rfl ⟨rfl, ?_⟩
      exact below_put HB.out (Nat.le_refl _) 0 q0 q1 q2 q3
end Go.Proofs.Qxb6617464a
