import Derived.Below
namespace Go.Proofs.Qxb6623450a

/-- quotedEnd from position p on: what is left, and where it stands. -/
def qend : List UInt8 → Int → Int
  | [], _ => -1
  | [c], p => if c = 92 then -1 else if c = 34 then p + 1 else -1
  | c :: d :: r, p => if c = 92 then qend r (p + 2) else if c = 34 then p + 1 else qend (d :: r) (p + 1)
/-- firstUnescapedQuoteEnd from position p on; e: the run of backslashes ahead is even. -/
def fend : List UInt8 → Bool → Int → Int
  | [], _, _ => -1
  | c :: r, e, p => if c = 34 ∧ e = true then p + 1 else if c = 92 then fend r (!e) (p + 1) else fend r true (p + 1)

theorem qend_nil (p : Int) : qend [] p = -1 := by simp [qend]
theorem qend_quote (r : List UInt8) (p : Int) : qend (34 :: r) p = p + 1 := by
  cases r <;> simp [qend]
theorem qend_plain {c : UInt8} (h1 : c ≠ 92) (h2 : c ≠ 34) (r : List UInt8) (p : Int) : qend (c :: r) p = qend r (p + 1) := by
  cases r <;> simp [qend, h1, h2]
theorem qend_back (r : List UInt8) (p : Int) : qend (92 :: r) p = qend (r.drop 1) (p + 2) := by
  cases r <;> simp [qend]

theorem fend_odd (d : UInt8) (r : List UInt8) (p : Int) : fend (d :: r) false p = fend r true (p + 1) := by
  simp [fend]

theorem qend_fend : ∀ (k : Nat) (l : List UInt8) (p : Int), l.length ≤ k → qend l p = fend l true p := by
  intro k
  induction k using Nat.strongRecOn with
  | _ k ih =>
    intro l p hk
    cases l with
    | nil => simp [qend, fend]
    | cons c r =>
      by_cases h1 : c = 92
      · subst h1
        rw [qend_back]
        have e : fend (92 :: r) true p = fend r false (p + 1) := by simp [fend]
        rw [e]
        cases r with
        | nil => simp [qend, fend]
        | cons d r' =>
          rw [fend_odd]
          simp only [List.length_cons] at hk
          show qend r' (p + 2) = _
          rw [ih (k - 2) (by omega) r' (p + 2) (by omega)]
          congr 1; omega
      · by_cases h2 : c = 34
        · subst h2; rw [qend_quote]; simp [fend]
        · rw [qend_plain h1 h2]
          have e : fend (c :: r) true p = fend r true (p + 1) := by simp [fend, h1, h2]
          rw [e]
          simp only [List.length_cons] at hk
          exact ih (k - 1) (by omega) r (p + 1) (by omega)

theorem qend_bd : ∀ (k : Nat) (l : List UInt8) (p : Int), l.length ≤ k → qend l p = -1 ∨ (p + 1 ≤ qend l p ∧ qend l p ≤ p + l.length) := by
  intro k
  induction k using Nat.strongRecOn with
  | _ k ih =>
    intro l p hk
    cases l with
    | nil => simp [qend]
    | cons c r =>
      simp only [List.length_cons] at hk
      by_cases h1 : c = 92
      · subst h1
        rw [qend_back]
        cases r with
        | nil => left; simp [qend]
        | cons d r' =>
          simp only [List.length_cons] at hk
          show qend r' (p + 2) = -1 ∨ _
          rcases ih (k - 2) (by omega) r' (p + 2) (by omega) with h | h
          · exact Or.inl h
          · right
            simp only [List.length_cons, List.drop_succ_cons, List.drop_zero]; omega
      · by_cases h2 : c = 34
        · subst h2; rw [qend_quote]; right; simp only [List.length_cons]; omega
        · rw [qend_plain h1 h2]
          rcases ih (k - 1) (by omega) r (p + 1) (by omega) with h | h
          · exact Or.inl h
          · right; simp only [List.length_cons]; omega

/-- What is closed stays closed; what is open closes beyond, or not at all. -/
theorem qend_append : ∀ (k : Nat) (l t : List UInt8) (p : Int), l.length ≤ k →
    (qend l p ≠ -1 → qend (l ++ t) p = qend l p) ∧ (qend l p = -1 → qend (l ++ t) p = -1 ∨ p + l.length < qend (l ++ t) p) := by
  intro k
  induction k using Nat.strongRecOn with
  | _ k ih =>
    intro l t p hk
    cases l with
    | nil =>
      refine ⟨fun h => absurd (qend_nil p) h, fun _ => ?_⟩
      rcases qend_bd _ t p (Nat.le_refl _) with h | h
      · exact Or.inl h
      · right; simp only [List.nil_append, List.length_nil]; omega
    | cons c r =>
      simp only [List.length_cons] at hk
      rw [List.cons_append]
      by_cases h1 : c = 92
      · subst h1
        rw [qend_back, qend_back]
        cases r with
        | nil =>
          refine ⟨fun h => absurd (qend_nil _) h, fun _ => ?_⟩
          rcases qend_bd _ (([] ++ t : List UInt8).drop 1) (p + 2) (Nat.le_refl _) with h | h
          · exact Or.inl h
          · right; simp only [List.length_cons, List.length_nil]; omega
        | cons d r' =>
          simp only [List.length_cons] at hk
          have := ih (k - 2) (by omega) r' t (p + 2) (by omega)
          simp only [List.cons_append, List.drop_succ_cons, List.drop_zero, List.length_cons]
          refine ⟨this.1, fun h => ?_⟩
          rcases this.2 h with g | g
          · exact Or.inl g
          · right; omega
      · by_cases h2 : c = 34
        · subst h2
          rw [qend_quote, qend_quote]
          exact ⟨fun _ => rfl, fun h => Or.inl h⟩
        · rw [qend_plain h1 h2, qend_plain h1 h2]
          have := ih (k - 1) (by omega) r t (p + 1) (by omega)
          refine ⟨this.1, fun h => ?_⟩
          rcases this.2 h with g | g
          · exact Or.inl g
          · right; simp only [List.length_cons]; omega

/-- With the closing quote cut off it is open. -/
theorem qend_cut : ∀ (k : Nat) (l : List UInt8) (p : Int), l.length ≤ k → qend l p ≠ -1 → qend (l.take (qend l p - 1 - p).toNat) p = -1 := by
  intro k
  induction k using Nat.strongRecOn with
  | _ k ih =>
    intro l p hk hne
    cases l with
    | nil => exact absurd (qend_nil p) hne
    | cons c r =>
      simp only [List.length_cons] at hk
      by_cases h1 : c = 92
      · subst h1
        rw [qend_back] at hne ⊢
        cases r with
        | nil => exact absurd (qend_nil _) hne
        | cons d r' =>
          simp only [List.length_cons] at hk
          simp only [List.drop_succ_cons, List.drop_zero] at hne ⊢
          have hb := (qend_bd _ r' (p + 2) (Nat.le_refl _)).resolve_left hne
          have e : (qend r' (p + 2) - 1 - p).toNat = (qend r' (p + 2) - 1 - (p + 2)).toNat + 1 + 1 := by omega
          rw [e, List.take_succ_cons, List.take_succ_cons, qend_back]
          exact ih (k - 2) (by omega) r' (p + 2) (by omega) hne
      · by_cases h2 : c = 34
        · subst h2
          rw [qend_quote]
          have e : (p + 1 - 1 - p).toNat = 0 := by omega
          rw [e]
          simp [qend]
        · rw [qend_plain h1 h2] at hne ⊢
          have hb := (qend_bd _ r (p + 1) (Nat.le_refl _)).resolve_left hne
          have e : (qend r (p + 1) - 1 - p).toNat = (qend r (p + 1) - 1 - (p + 1)).toNat + 1 := by omega
          rw [e, List.take_succ_cons, qend_plain h1 h2]
          exact ih (k - 1) (by omega) r (p + 1) (by omega) hne
end Go.Proofs.Qxb6623450a
