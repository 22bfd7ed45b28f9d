import Derived.Test.Qxb6617464aSums
namespace Go.Proofs.Qxb6617464a
open Go.RowKit
set_option linter.unusedSimpArgs false
set_option linter.unusedVariables false
attribute [local go_sem] run_store_float

/-- All words of the argument are words. -/
def Words (A : Nat → Nat → Nat) (n : Nat) : Prop := ∀ f, f < 4 → ∀ j, j < n → A f j < 2 ^ 64
/-- What holds all along the law: the old memory is as it was, and x lies in its box. -/
structure St (w wr : World) (x0 x1 x2 x3 : Nat) : Prop where
  bel : Below w.heap.size w wr
  box : Four wr w.heap.size 0 x0 x1 x2 x3
  size : w.heap.size + 1 ≤ wr.heap.size
theorem St.go {w wr w' : World} {x0 x1 x2 x3 : Nat} (h : St w wr x0 x1 x2 x3) (hb : Below wr.heap.size wr w') : St w w' x0 x1 x2 x3 :=
  ⟨h.bel.trans (hb.mono h.bel.size), four_below hb h.box (Nat.lt_of_lt_of_le (Nat.lt_succ_self _) h.size), Nat.le_trans h.size hb.size⟩
theorem St.start (w : World) (x0 x1 x2 x3 : Nat) : St w (w.alloc (.cells #[.float .f64 x0, .float .f64 x1, .float .f64 x2, .float .f64 x3] 25)) x0 x1 x2 x3 :=
  ⟨(Below.refl w.heap.size w).alloc (Nat.le_refl _) _, four_new w _ _ _ _ 25, by simp⟩

/-- Four numbers by their index. -/
def four4 (x0 x1 x2 x3 f : Nat) : Nat := match f with | 0 => x0 | 1 => x1 | 2 => x2 | _ => x3

set_option maxRecDepth 100000 in
set_option maxHeartbeats 8000000 in
theorem law_any (A : Nat → Nat → Nat) (x0 x1 x2 x3 : Nat) (ao : Option Addr) (ga oa n cap : Nat) (w : World) (ha : Arg w A ao ga oa n) (hA : Words A n) (hx0 : x0 < 2 ^ 64) (hx1 : x1 < 2 ^ 64) (hx2 : x2 < 2 ^ 64) (hx3 : x3 < 2 ^ 64) :
    Calls Try.prog 3 #[.slice ao n cap, .agg #[.float .f64 x0, .float .f64 x1, .float .f64 x2, .float .f64 x3]] w fun e w' => e = .returned (.bool true) ∧ Below w.heap.size w w' := by
  have HA := hidden ha
  have HW := hidden hA
  have HXW := hidden (And.intro hx0 (And.intro hx1 (And.intro hx2 hx3)))
  clear ha hA hx0 hx1 hx2 hx3
  have HS := hidden (St.start w x0 x1 x2 x3)
  by_cases hbig : n ≤ 1048576
  case neg =>
    go_enter Try.func3, Try.ntmps3
    go_wp2_with fail
    refine (bytes_no ao n cap x0 x1 x2 x3 _ hbig).mono ?_
    rintro e w1 ⟨rfl, hb1⟩
    have HS1 := hidden (HS.out.go hb1)
    clear hb1
    go_wp2
    go_ret
    exact ⟨rfl, HS1.out.bel⟩
  have HBig := hidden hbig
  clear hbig
  by_cases hn : n ≤ 4096
  case neg =>
    have hgt : (4096 : Int) < (n : Int) := by omega
    go_enter Try.func3, Try.ntmps3
    go_wp2_with fail
    refine (bytes_yes ao n cap x0 x1 x2 x3 _ HBig.out).mono ?_
    rintro e w1 ⟨rfl, hb1⟩
    have HS1 := hidden (HS.out.go hb1)
    clear hb1
    go_wp2
    go_ret
    exact ⟨rfl, HS1.out.bel⟩
  have hle : (n : Int) ≤ 4096 := by omega
  go_enter Try.func3, Try.ntmps3
  go_wp2_with fail
  refine (bytes_yes ao n cap x0 x1 x2 x3 _ HBig.out).mono ?_
  rintro e w1 ⟨rfl, hb1⟩
  have HS1 := hidden (HS.out.go hb1)
  clear hb1 HS
  go_wp2
  go_loopw [5] (fun i wr => ∃ k, k ≤ n ∧ i = .int .i64 k ∧ Hid (St w wr x0 x1 x2 x3 ∧ InRs A k)) (fun i _ => (8193 - intOf i).toNat)
  case atStart => exact ⟨0, by omega, rfl, HS1.out, fun f hf j hj => absurd hj (by omega)⟩
  case round =>
    clear HS1
    obtain ⟨k, hk, rfl, HS⟩ := hrel
    by_cases hlt : k < n
    · have hao := HA.out.at_ (by omega)
      have hga := arg_lt HA.out (by omega)
      subst hao
      obtain ⟨a0, a1, a2, a3⟩ := four_below HS.out.1.bel (HA.out.four k hlt) hga
      clear hga
      have HP : Hid ((A 0 k < 2 ^ 64 ∧ A 1 k < 2 ^ 64 ∧ A 2 k < 2 ^ 64 ∧ A 3 k < 2 ^ 64) ∧ (InR (A 0 k) ∧ InR (A 1 k) ∧ InR (A 2 k) ∧ InR (A 3 k) → InRs A (k + 1))) := ⟨⟨HW.out 0 (by omega) k hlt, HW.out 1 (by omega) k hlt, HW.out 2 (by omega) k hlt, HW.out 3 (by omega) k hlt⟩, fun h f hf j hj => by
        by_cases e : j = k
        · subst e
          match f, hf with
          | 0, _ => exact h.1
          | 1, _ => exact h.2.1
          | 2, _ => exact h.2.2.1
          | 3, _ => exact h.2.2.2
        · exact HS.out.2 f hf j (by omega)⟩
      generalize A 0 k = p0 at *
      generalize A 1 k = p1 at *
      generalize A 2 k = p2 at *
      generalize A 3 k = p3 at *
      go_wp2_with fail
      obtain ⟨⟨b0, b1, b2, b3⟩, hin⟩ := HP.out
      refine (ok_any p0 p1 p2 p3 _ b0 b1 b2 b3).mono ?_
      clear b0 b1 b2 b3 HP
      have HIN := hidden hin
      clear hin
      rintro e w2 ⟨⟨b, rfl, hb⟩, hb2⟩
      have HS2 := hidden (HS.out.1.go hb2)
      clear a0 a1 a2 a3 hb2
      cases b with
      | false =>
        clear hb
        go_wp2
        go_ret
        exact ⟨rfl, HS2.out.bel⟩
      | true =>
        have HI := hidden (HIN.out (hb rfl))
        clear hb
        go_wp2
        go_roundw
        case rel => exact ⟨k + 1, by omega, by go_num, HS2.out, HI.out⟩
        case measure => simp [intOf]; omega
    · have hkn : k = n := by omega
      subst hkn
      have hge : ¬ (k : Int) < (k : Int) := by omega
      obtain ⟨x0', x1', x2', x3'⟩ := HS.out.1.box
      simp only [Nat.zero_add] at x1' x2' x3'
      go_wp2_with fail
      obtain ⟨b0, b1, b2, b3⟩ := HXW.out
      refine (ok_any x0 x1 x2 x3 _ b0 b1 b2 b3).mono ?_
      clear b0 b1 b2 b3
      rintro e w2 ⟨⟨b, rfl, hb⟩, hb2⟩
      have HS2 := hidden (HS.out.1.go hb2)
      have HI := hidden HS.out.2
      clear HS x0' x1' x2' x3' hb2
      cases b with
      | false =>
        clear hb
        go_wp2
        go_ret
        exact ⟨rfl, HS2.out.bel⟩
      | true =>
        have HIX : Hid (∀ f, f < 4 → InR (four4 x0 x1 x2 x3 f)) := fun f hf => by
          match f, hf with
          | 0, _ => exact (hb rfl).1
          | 1, _ => exact (hb rfl).2.1
          | 2, _ => exact (hb rfl).2.2.1
          | 3, _ => exact (hb rfl).2.2.2
        clear hb
        obtain ⟨x0', x1', x2', x3'⟩ := HS2.out.box
        simp only [Nat.zero_add] at x1' x2' x3'
        go_wp2_with fail
        refine (padded_any A (four4 x0 x1 x2 x3) ao ga oa k cap false _ hn (arg_below HA.out HS2.out.bel)).mono ?_
        rintro e w3 ⟨g3, rfl, hb3, -, -, hrow⟩
        have HS3 := hidden (HS2.out.go hb3)
        have HR3 := hidden hrow
        clear HS2 hb3 hrow x0' x1' x2' x3'
        go_wp2_with fail
        refine (pad_no A k g3 w3 hn HI.out HR3.out).mono ?_
        rintro e w4 ⟨⟨D, rfl, hD⟩, hb4⟩
        unfold Mes
        have HS4 := hidden (HS3.out.go hb4)
        have HM0 := hidden (And.intro (hD 0 (by omega)) (And.intro (hD 1 (by omega)) (And.intro (hD 2 (by omega)) (hD 3 (by omega)))))
        clear HS3 HR3 hb4 hD
        generalize D 0 = d0 at *
        generalize D 1 = d1 at *
        generalize D 2 = d2 at *
        generalize D 3 = d3 at *
        have hba : Below w4.heap.size w4 (w4.alloc (.cells #[.float .f64 d0, .float .f64 d1, .float .f64 d2, .float .f64 d3] 28)) := (Below.refl _ _).alloc (Nat.le_refl _) _
        have HS5 := hidden (HS4.out.go hba)
        have HF5 := hidden (four_new w4 d0 d1 d2 d3 28)
        have HG5 : Hid (w.heap.size + 1 ≤ w4.heap.size ∧ w4.heap.size < (w4.alloc (.cells #[.float .f64 d0, .float .f64 d1, .float .f64 d2, .float .f64 d3] 28)).heap.size) := ⟨HS4.out.size, by simp⟩
        obtain ⟨x0', x1', x2', x3'⟩ := HS5.out.box
        simp only [Nat.zero_add] at x1' x2' x3'
        clear HS4 hba
        go_wp2_with fail
        clear x0' x1' x2' x3'
        generalize w4.alloc (.cells #[.float .f64 d0, .float .f64 d1, .float .f64 d2, .float .f64 d3] 28) = w5 at *
        generalize w4.heap.size = gp at *
        refine (padded_any A (four4 x0 x1 x2 x3) ao ga oa k cap true _ hn (arg_below HA.out HS5.out.bel)).mono ?_
        rintro e w6 ⟨g6, rfl, hb6, -, -, hrow⟩
        have HS6 := hidden (HS5.out.go hb6)
        have HF6 := hidden (And.intro (four_below hb6 HF5.out HG5.out.2) (Nat.lt_of_lt_of_le HG5.out.2 hb6.size))
        have HR6 := hidden hrow
        have HGP := hidden HG5.out.1
        clear HS5 HF5 HG5 hb6 hrow
        go_wp2_with fail
        refine (pad_yes A (four4 x0 x1 x2 x3) k g6 w6 hn HI.out HIX.out HR6.out).mono ?_
        rintro e w7 ⟨⟨D', T, rfl, hD⟩, hb7⟩
        unfold Mes
        have HS7 := hidden (HS6.out.go hb7)
        have HF7 := hidden (And.intro (four_below hb7 HF6.out.1 HF6.out.2) (Nat.lt_of_lt_of_le HF6.out.2 hb7.size))
        obtain ⟨f0, g0, o0⟩ := hD 0 (by omega)
        obtain ⟨f1, g1, o1⟩ := hD 1 (by omega)
        obtain ⟨f2, g2, o2⟩ := hD 2 (by omega)
        obtain ⟨f3, g3', o3⟩ := hD 3 (by omega)
        clear HS6 HF6 HR6 hb7 hD
        generalize D' 0 = e0 at *
        generalize D' 1 = e1 at *
        generalize D' 2 = e2 at *
        generalize D' 3 = e3 at *
        generalize T 0 = t0 at *
        generalize T 1 = t1 at *
        generalize T 2 = t2 at *
        generalize T 3 = t3 at *
        have HM1 : Hid (Ieee.double.mul e0 C13 = some t0 ∧ Ieee.double.mul e1 C13 = some t1 ∧ Ieee.double.mul e2 C13 = some t2 ∧ Ieee.double.mul e3 C13 = some t3) := ⟨f0, f1, f2, f3⟩
        have HAD : Hid (Ieee.double.add (rs (A 0) k) x0 = some t0 ∧ Ieee.double.add (rs (A 1) k) x1 = some t1 ∧ Ieee.double.add (rs (A 2) k) x2 = some t2 ∧ Ieee.double.add (rs (A 3) k) x3 = some t3) := ⟨g0, g1, g2, g3'⟩
        have HOT := hidden (And.intro o0 (And.intro o1 (And.intro o2 o3)))
        clear f0 f1 f2 f3 g0 g1 g2 g3' o0 o1 o2 o3
        generalize hs0 : rs (A 0) k = s0 at *
        generalize hs1 : rs (A 1) k = s1 at *
        generalize hs2 : rs (A 2) k = s2 at *
        generalize hs3 : rs (A 3) k = s3 at *
        have HSUM := hidden (And.intro hs0 (And.intro hs1 (And.intro hs2 hs3)))
        clear hs0 hs1 hs2 hs3
        have hba1 : Below w7.heap.size w7 (w7.alloc (.cells #[.float .f64 e0, .float .f64 e1, .float .f64 e2, .float .f64 e3] 28)) := (Below.refl _ _).alloc (Nat.le_refl _) _
        have hba3 : Below (w7.alloc (.cells #[.float .f64 e0, .float .f64 e1, .float .f64 e2, .float .f64 e3] 28)).heap.size (w7.alloc (.cells #[.float .f64 e0, .float .f64 e1, .float .f64 e2, .float .f64 e3] 28)) (((w7.alloc (.cells #[.float .f64 e0, .float .f64 e1, .float .f64 e2, .float .f64 e3] 28)).alloc (.cells #[.float .f64 s0, .float .f64 s1, .float .f64 s2, .float .f64 s3] 25)).alloc (.cells #[.float .f64 t0, .float .f64 t1, .float .f64 t2, .float .f64 t3] 25)) := ((Below.refl _ _).alloc (Nat.le_refl _) _).alloc (by simp) _
        have hba2 : Below ((w7.alloc (.cells #[.float .f64 e0, .float .f64 e1, .float .f64 e2, .float .f64 e3] 28)).alloc (.cells #[.float .f64 s0, .float .f64 s1, .float .f64 s2, .float .f64 s3] 25)).heap.size ((w7.alloc (.cells #[.float .f64 e0, .float .f64 e1, .float .f64 e2, .float .f64 e3] 28)).alloc (.cells #[.float .f64 s0, .float .f64 s1, .float .f64 s2, .float .f64 s3] 25)) (((w7.alloc (.cells #[.float .f64 e0, .float .f64 e1, .float .f64 e2, .float .f64 e3] 28)).alloc (.cells #[.float .f64 s0, .float .f64 s1, .float .f64 s2, .float .f64 s3] 25)).alloc (.cells #[.float .f64 t0, .float .f64 t1, .float .f64 t2, .float .f64 t3] 25)) := (Below.refl _ _).alloc (Nat.le_refl _) _
        have HS8 := hidden (HS7.out.go hba1)
        have HS9 := hidden (HS8.out.go hba3)
        have es1 : (w7.alloc (.cells #[.float .f64 e0, .float .f64 e1, .float .f64 e2, .float .f64 e3] 28)).heap.size = w7.heap.size + 1 := by simp
        have es2 : ((w7.alloc (.cells #[.float .f64 e0, .float .f64 e1, .float .f64 e2, .float .f64 e3] 28)).alloc (.cells #[.float .f64 s0, .float .f64 s1, .float .f64 s2, .float .f64 s3] 25)).heap.size = w7.heap.size + 1 + 1 := by simp
        have hFs := four_below hba2 (four_new (w7.alloc (.cells #[.float .f64 e0, .float .f64 e1, .float .f64 e2, .float .f64 e3] 28)) s0 s1 s2 s3 25) (by rw [es1, es2]; omega)
        rw [es1] at hFs
        obtain ⟨y0, y1, y2, y3⟩ := four_below hba1 HF7.out.1 HF7.out.2
        obtain ⟨x0', x1', x2', x3'⟩ := HS9.out.box
        obtain ⟨z0, z1, z2, z3⟩ := hFs
        simp only [Nat.zero_add] at x1' x2' x3' y1 y2 y3 z1 z2 z3
        obtain ⟨m0, m1, m2, m3⟩ := HM0.out
        have hm0 := arith (op := .mul) (y := 4665729213955833856) m0 23
        have hm1 := arith (op := .mul) (y := 4665729213955833856) m1 23
        have hm2 := arith (op := .mul) (y := 4665729213955833856) m2 23
        have hm3 := arith (op := .mul) (y := 4665729213955833856) m3 23
        obtain ⟨n0, n1, n2, n3⟩ := HM1.out
        have hn0 := arith (op := .mul) (y := 4665729213955833856) n0 23
        have hn1 := arith (op := .mul) (y := 4665729213955833856) n1 23
        have hn2 := arith (op := .mul) (y := 4665729213955833856) n2 23
        have hn3 := arith (op := .mul) (y := 4665729213955833856) n3 23
        obtain ⟨r0, r1, r2, r3⟩ := HAD.out
        have hr0 := arith (op := .add) r0 23
        have hr1 := arith (op := .add) r1 23
        have hr2 := arith (op := .add) r2 23
        have hr3 := arith (op := .add) r3 23
        have ho : FloatKind.f64.format.order t0 t0 = some .eq ∧ FloatKind.f64.format.order t1 t1 = some .eq ∧ FloatKind.f64.format.order t2 t2 = some .eq ∧ FloatKind.f64.format.order t3 t3 = some .eq := HOT.out
        obtain ⟨o0, o1, o2, o3⟩ := ho
        clear m0 m1 m2 m3 n0 n1 n2 n3 r0 r1 r2 r3 hba1 hba2 hba3 HM0 HM1 HAD HOT HS8 HF7 HS7 es1 es2
        by_cases hz : k = 0
        · have hk0 : (k : Int) = 0 := by omega
          have hzero : FloatKind.f64.format.order 0 0 = some .eq := by decide +kernel
          have q0 : s0 = 0 := by rw [← HSUM.out.1, hz]; rfl
          have q1 : s1 = 0 := by rw [← HSUM.out.2.1, hz]; rfl
          have q2 : s2 = 0 := by rw [← HSUM.out.2.2.1, hz]; rfl
          have q3 : s3 = 0 := by rw [← HSUM.out.2.2.2, hz]; rfl
          clear HSUM
          subst q0 q1 q2 q3
          go_wp2
          go_ret
          exact ⟨rfl, HS9.out.bel⟩
        · have es3 : (((w7.alloc (.cells #[.float .f64 e0, .float .f64 e1, .float .f64 e2, .float .f64 e3] 28)).alloc (.cells #[.float .f64 s0, .float .f64 s1, .float .f64 s2, .float .f64 s3] 25)).alloc (.cells #[.float .f64 t0, .float .f64 t1, .float .f64 t2, .float .f64 t3] 25)).heap.size = w7.heap.size + 1 + 1 + 1 := by simp
          have hZ : Four (((w7.alloc (.cells #[.float .f64 e0, .float .f64 e1, .float .f64 e2, .float .f64 e3] 28)).alloc (.cells #[.float .f64 s0, .float .f64 s1, .float .f64 s2, .float .f64 s3] 25)).alloc (.cells #[.float .f64 t0, .float .f64 t1, .float .f64 t2, .float .f64 t3] 25)) (w7.heap.size + 1) 0 s0 s1 s2 s3 := ⟨z0, z1, z2, z3⟩
          obtain ⟨w9, hm, hbel, hsize, hfour, hopens⟩ := made_any k (((w7.alloc (.cells #[.float .f64 e0, .float .f64 e1, .float .f64 e2, .float .f64 e3] 28)).alloc (.cells #[.float .f64 s0, .float .f64 s1, .float .f64 s2, .float .f64 s3] 25)).alloc (.cells #[.float .f64 t0, .float .f64 t1, .float .f64 t2, .float .f64 t3] 25)) (by omega)
          have hSz := HS9.out.size
          rw [es3] at hm hbel hsize hfour hopens hSz
          have HS10 : Hid (St w w9 x0 x1 x2 x3 ∧ Four w9 (w7.heap.size + 1) 0 s0 s1 s2 s3 ∧ Row k w9 (w7.heap.size + 1 + 1 + 1) (part A 0) ∧ w7.heap.size + 1 < w7.heap.size + 1 + 1 + 1 ∧ w7.heap.size + 1 + 1 + 1 < w9.heap.size ∧ w.heap.size + 1 ≤ w7.heap.size + 1 + 1 + 1) :=
            ⟨HS9.out.go (by rw [es3]; exact hbel), four_below hbel hZ (by omega), ⟨fun j hj => by simpa [part] using hfour j hj, hopens⟩, by omega, by omega, hSz⟩
          clear hbel hsize hfour hopens HS9 hZ es3 hSz
          go_wp2
          generalize w7.heap.size + 1 + 1 + 1 = gd at *
          generalize w7.heap.size + 1 = gs at *
          clear hm
          clear z0 z1 z2 z3 x0' x1' x2' x3' y0 y1 y2 y3 hm0 hm1 hm2 hm3 hn0 hn1 hn2 hn3 hr0 hr1 hr2 hr3 o0 o1 o2 o3
          have HZN := hidden hz
          have hkz : ((k : Int) == 0) = false := by simpa using hz
          rw [hkz]
          clear hz hlt hk hge HGP
          go_loopw [11] (fun i wr => ∃ j, j ≤ k ∧ i = .int .i64 j ∧ Hid (St w wr x0 x1 x2 x3 ∧ Four wr gs 0 s0 s1 s2 s3 ∧ Row k wr gd (part A j) ∧ gs < gd ∧ gd < wr.heap.size ∧ w.heap.size + 1 ≤ gd)) (fun i _ => (8193 - intOf i).toNat)
          case atStart => exact ⟨0, by omega, rfl, HS10⟩
          case round =>
            clear HS10
            obtain ⟨j, hj, rfl, HS⟩ := hrel
            by_cases hlt : j < k
            · have hao := HA.out.at_ (by omega)
              have hga := arg_lt HA.out (by omega)
              subst hao
              obtain ⟨a0, a1, a2, a3⟩ := four_below HS.out.1.bel (HA.out.four j hlt) hga
              clear hga
              generalize hp0 : A 0 j = p0 at *
              generalize hp1 : A 1 j = p1 at *
              generalize hp2 : A 2 j = p2 at *
              generalize hp3 : A 3 j = p3 at *
              have HP := hidden (And.intro hp0 (And.intro hp1 (And.intro hp2 hp3)))
              clear hp0 hp1 hp2 hp3
              go_wp2_with fail
              refine (toeval_any p0 p1 p2 p3 _).mono ?_
              rintro e wt ⟨rfl, hbt⟩
              obtain ⟨hst, hfs, hrow, l1, l2, l3⟩ := HS.out
              have hrow2 := row_below hrow hbt l2
              have HS2 := hidden (And.intro (hst.go hbt) (And.intro (four_below hbt hfs (Nat.lt_trans l1 l2)) (And.intro hrow2 (And.intro l1 (And.intro (Nat.lt_of_lt_of_le l2 hbt.size) l3)))))
              obtain ⟨y0, y1, y2, y3⟩ := hrow2.four j hlt
              obtain ⟨z0, z1, z2, z3⟩ := hrow2.opens (j * 4)
              clear hst hfs hrow l1 l2 l3 hrow2 hbt HS a0 a1 a2 a3
              go_wp2
              go_roundw
              case rel =>
                obtain ⟨⟨hb, hbox, hsz⟩, hfs, hrow, l1, l2, l3⟩ := HS2.out
                obtain ⟨rfl, rfl, rfl, rfl⟩ := HP.out
                have hr := row_same (row_put hrow (k := j) hlt (fun f => A f j)) (P' := part A (j + 1)) (fun f i _ => part_with A j f i)
                have es := size_put wt gd (j * 4) (A 0 j) (A 1 j) (A 2 j) (A 3 j)
                exact ⟨j + 1, by omega, by go_num, ⟨below_put hb (by omega) (j * 4) _ _ _ _, four_apart hbox _ _ _ _ (Or.inl (by omega)), Nat.le_trans hsz (Nat.le_of_eq es.symm)⟩, four_apart hfs _ _ _ _ (Or.inl (by omega)), hr, l1, Nat.lt_of_lt_of_le l2 (Nat.le_of_eq es.symm), l3⟩
              case measure => simp [intOf]; omega
            · have hjk : j = k := by omega
              subst hjk
              have hge : ¬ (j : Int) < (j : Int) := by omega
              go_wp2_with fail
              refine (direct_any A j gd _ (Nat.pos_of_ne_zero HZN.out) hn HI.out HS.out.2.2.1).mono ?_
              rintro e wA ⟨⟨Q, rfl, hQ⟩, hbA⟩
              unfold Mes
              obtain ⟨hst, hfs, hrow, l1, l2, l3⟩ := HS.out
              have HSA := hidden (hst.go hbA)
              have hfA := four_below hbA hfs (Nat.lt_trans l1 l2)
              have hgA : gs < wA.heap.size := Nat.lt_of_lt_of_le (Nat.lt_trans l1 l2) hbA.size
              obtain ⟨v0, o0⟩ := hQ 0 (by omega)
              obtain ⟨v1, o1⟩ := hQ 1 (by omega)
              obtain ⟨v2, o2⟩ := hQ 2 (by omega)
              obtain ⟨v3, o3⟩ := hQ 3 (by omega)
              obtain ⟨c0, c1, c2, c3⟩ := HSUM.out
              rw [c0] at v0
              rw [c1] at v1
              rw [c2] at v2
              rw [c3] at v3
              clear hst hfs hrow l1 l2 l3 hbA HS hQ c0 c1 c2 c3 HSUM
              generalize Q 0 = q0 at *
              generalize Q 1 = q1 at *
              generalize Q 2 = q2 at *
              generalize Q 3 = q3 at *
              have hv0 := arith (op := .quo) v0 23
              have hv1 := arith (op := .quo) v1 23
              have hv2 := arith (op := .quo) v2 23
              have hv3 := arith (op := .quo) v3 23
              have ho : FloatKind.f64.format.order q0 q0 = some .eq ∧ FloatKind.f64.format.order q1 q1 = some .eq ∧ FloatKind.f64.format.order q2 q2 = some .eq ∧ FloatKind.f64.format.order q3 q3 = some .eq := ⟨o0, o1, o2, o3⟩
              clear o0 o1 o2 o3 v0 v1 v2 v3
              obtain ⟨o0, o1, o2, o3⟩ := ho
              have hba : Below wA.heap.size wA (wA.alloc (.cells #[.float .f64 q0, .float .f64 q1, .float .f64 q2, .float .f64 q3] 28)) := (Below.refl _ _).alloc (Nat.le_refl _) _
              have HSB := hidden (HSA.out.go hba)
              obtain ⟨z0, z1, z2, z3⟩ := four_below hba hfA hgA
              simp only [Nat.zero_add] at z1 z2 z3
              clear hba hfA hgA HSA
              go_wp2
              go_ret
              exact ⟨rfl, HSB.out.bel⟩
end Go.Proofs.Qxb6617464a
