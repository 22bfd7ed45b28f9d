import Derived.Test.Qxb6623450aRows
import Derived.Test.Qxb6623450aPlain
import Derived.WalkKit
import Derived.WalkSpells
import Derived.WalkLawsBesides
namespace Go.Proofs.Qxb6623450a
open Go.RowKit
set_option linter.unusedSimpArgs false
set_option linter.unusedVariables false

/-- What quotedEnd answers. -/
def QE (s : ByteArray) : Int := qend (s.data.toList.drop 1) 1
/-- What firstUnescapedQuoteEnd answers. -/
def FE (s : ByteArray) : Int := fend (s.data.toList.drop 1) true 1

theorem ret_int {k : IntKind} {a b : Int} (h : a = b) : Ending.returned (.int k a) = .returned (.int k b) := by rw [h]
theorem drop_at (s : ByteArray) (k : Nat) (h : k < s.size) : s.data.toList.drop k = s[k] :: s.data.toList.drop (k + 1) := by
  rw [List.drop_eq_getElem_cons (by simpa using h)]; rfl
theorem byte_eq (c : UInt8) (n : Nat) (hn : n < 256) : ((c.toNat : Int) == (n : Int)) = decide (c = UInt8.ofNat n) := by
  rw [Bool.eq_iff_iff, beq_iff_eq, decide_eq_true_iff, ← UInt8.toNat_inj, UInt8.toNat_ofNat_of_lt' (by simpa using hn)]
  omega
theorem is_back (c : UInt8) : ((c.toNat : Int) == 92) = decide (c = 92) := byte_eq c 92 (by omega)
theorem is_quote (c : UInt8) : ((c.toNat : Int) == 34) = decide (c = 34) := byte_eq c 34 (by omega)

set_option maxHeartbeats 400000 in
theorem quoted_any (s : ByteArray) (w : World) (hs : s.size ≤ 2097152) :
    Calls Try.prog 7 #[.string s] w fun e w' => e = .returned (.int .i64 (QE s)) ∧ w' = w := by
  go_enter Try.func7, Try.ntmps7
  go_wp2
  go_loop [3] (fun i => ∃ k : Nat, 1 ≤ k ∧ k ≤ 2097153 ∧ i = .int .i64 k ∧ Hid (qend (s.data.toList.drop k) k = QE s)) (fun i => s.size + 1 - (intOf i).toNat)
  case atStart => exact ⟨1, by omega, by omega, rfl, rfl⟩
  case round =>
    obtain ⟨k, hk1, hk2, rfl, HK⟩ := hrel
    by_cases hlt : k < s.size
    · have hd := drop_at s k hlt
      have HD : Hid (s.data.toList.drop k = s[k] :: s.data.toList.drop (k + 1)) := hd
      clear hd
      by_cases h1 : s[k] = 92
      · have t1 : ((s[k].toNat : Int) == 92) = true := by rw [is_back]; simp [h1]
        have HE : Hid (qend (s.data.toList.drop (k + 2)) ((k + 2 : Nat) : Int) = QE s) := by
          show _ = _
          rw [← HK.out, HD.out, h1, qend_back, List.drop_drop]
          simp
        clear h1 HK HD
        go_wp2
        go_round
        case rel => exact ⟨k + 2, by omega, by omega, by go_num, HE⟩
        case measure => simp [intOf]; omega
      · by_cases h2 : s[k] = 34
        · have t1 : ((s[k].toNat : Int) == 92) = false := by rw [is_back]; simp [h1]
          have t2 : ((s[k].toNat : Int) == 34) = true := by rw [is_quote]; simp [h2]
          have HE : Hid ((k : Int) + 1 = QE s) := by
            show _ = _
            rw [← HK.out, HD.out, h2, qend_quote]
          clear h1 h2 HK HD
          go_wp2
          go_ret
          exact ⟨ret_int HE.out, rfl⟩
        · have t1 : ((s[k].toNat : Int) == 92) = false := by rw [is_back]; simp [h1]
          have t2 : ((s[k].toNat : Int) == 34) = false := by rw [is_quote]; simp [h2]
          have HE : Hid (qend (s.data.toList.drop (k + 1)) ((k + 1 : Nat) : Int) = QE s) := by
            show _ = _
            rw [← HK.out, HD.out, qend_plain h1 h2]
            simp
          clear h1 h2 HK HD
          go_wp2
          go_round
          case rel => exact ⟨k + 1, by omega, by omega, by go_num, HE⟩
          case measure => simp [intOf]; omega
    · have HE : Hid (QE s = -1) := by
        show _ = _
        rw [← HK.out, List.drop_eq_nil_of_le (by simpa using hlt), qend_nil]
      clear HK
      go_wp2
      go_ret
      exact ⟨ret_int HE.out.symm, rfl⟩

set_option maxHeartbeats 400000 in
theorem zzquoted_any (s : ByteArray) (w : World) (hs : s.size ≤ 2097152) :
    Calls Try.prog 5 #[.string s] w fun e w' => e = .returned (.int .i64 (QE s)) ∧ w' = w := by
  go_enter Try.func5, Try.ntmps5
  go_wp2_with (go_at_call 7; refine (quoted_any s _ hs).mono ?_; rintro e w' ⟨rfl, rfl⟩)
  go_ret
  exact ⟨rfl, rfl⟩

theorem fend_quote (r : List UInt8) (p : Int) : fend (34 :: r) true p = p + 1 := by simp [fend]
theorem fend_quote_odd (r : List UInt8) (p : Int) : fend (34 :: r) false p = fend r true (p + 1) := by simp [fend]
theorem fend_back (r : List UInt8) (e : Bool) (p : Int) : fend (92 :: r) e p = fend r (!e) (p + 1) := by simp [fend]
theorem fend_plain {c : UInt8} (h1 : c ≠ 92) (h2 : c ≠ 34) (r : List UInt8) (e : Bool) (p : Int) : fend (c :: r) e p = fend r true (p + 1) := by simp [fend, h1, h2]
theorem even_succ (r : Int) : decide ((r + 1) % 2 = 0) = !decide (r % 2 = 0) := by
  by_cases h : r % 2 = 0
  · have : ¬ (r + 1) % 2 = 0 := by omega
    simp [h, this]
  · have : (r + 1) % 2 = 0 := by omega
    simp [h, this]

set_option maxHeartbeats 400000 in
theorem first_any (s : ByteArray) (w : World) (hs : s.size ≤ 2097152) :
    Calls Try.prog 6 #[.string s] w fun e w' => e = .returned (.int .i64 (FE s)) ∧ w' = w := by
  go_enter Try.func6, Try.ntmps6
  go_wp2
  go_loop [3, 4] (fun u i => ∃ (r : Int) (k : Nat), 0 ≤ r ∧ r ≤ k ∧ 1 ≤ k ∧ k ≤ 2097153 ∧ u = .int .i64 r ∧ i = .int .i64 k ∧ Hid (fend (s.data.toList.drop k) (decide (r % 2 = 0)) k = FE s)) (fun _ i => s.size + 1 - (intOf i).toNat)
  case atStart => exact ⟨0, 1, by omega, by omega, by omega, by omega, rfl, rfl, rfl⟩
  case round =>
    obtain ⟨r, k, hr0, hr1, hk1, hk2, rfl, rfl, HK⟩ := hrel
    by_cases hlt : k < s.size
    · have hd := drop_at s k hlt
      have HD : Hid (s.data.toList.drop k = s[k] :: s.data.toList.drop (k + 1)) := hd
      clear hd
      by_cases h1 : s[k] = 92
      · have t1 : ((s[k].toNat : Int) == 92) = true := by rw [is_back]; simp [h1]
        have t2 : ((s[k].toNat : Int) == 34) = false := by rw [is_quote]; simp [h1]
        have HE : Hid (fend (s.data.toList.drop (k + 1)) (decide ((r + 1) % 2 = 0)) ((k + 1 : Nat) : Int) = FE s) := by
          show _ = _
          rw [← HK.out, HD.out, h1, fend_back, even_succ]
          simp
        clear h1 HK HD
        go_wp2
        go_round
        case rel => exact ⟨r + 1, k + 1, by omega, by omega, by omega, by omega, rfl, by go_num, HE⟩
        case measure => simp [intOf]; omega
      · have t1 : ((s[k].toNat : Int) == 92) = false := by rw [is_back]; simp [h1]
        by_cases h2 : s[k] = 34
        · have t2 : ((s[k].toNat : Int) == 34) = true := by rw [is_quote]; simp [h2]
          by_cases h3 : r % 2 = 0
          · have t3 : (r % 2 == 0) = true := by simp [h3]
            have HE : Hid ((k : Int) + 1 = FE s) := by
              show _ = _
              rw [← HK.out, HD.out, h2, decide_eq_true h3, fend_quote]
            clear h1 h2 h3 HK HD
            go_wp2
            go_ret
            exact ⟨ret_int HE.out, rfl⟩
          · have t3 : (r % 2 == 0) = false := by simp [h3]
            have HE : Hid (fend (s.data.toList.drop (k + 1)) (decide ((0 : Int) % 2 = 0)) ((k + 1 : Nat) : Int) = FE s) := by
              show _ = _
              rw [← HK.out, HD.out, h2, decide_eq_false h3, fend_quote_odd]
              simp
            clear h1 h2 h3 HK HD
            go_wp2
            go_round
            case rel => exact ⟨0, k + 1, by omega, by omega, by omega, by omega, rfl, by go_num, HE⟩
            case measure => simp [intOf]; omega
        · have t2 : ((s[k].toNat : Int) == 34) = false := by rw [is_quote]; simp [h2]
          have HE : Hid (fend (s.data.toList.drop (k + 1)) (decide ((0 : Int) % 2 = 0)) ((k + 1 : Nat) : Int) = FE s) := by
            show _ = _
            rw [← HK.out, HD.out, fend_plain h1 h2]
            simp
          clear h1 h2 HK HD
          go_wp2
          go_round
          case rel => exact ⟨0, k + 1, by omega, by omega, by omega, by omega, rfl, by go_num, HE⟩
          case measure => simp [intOf]; omega
    · have HE : Hid (FE s = -1) := by
        show _ = _
        rw [← HK.out, List.drop_eq_nil_of_le (by simpa using hlt)]
        simp [fend]
      clear HK
      go_wp2
      go_ret
      exact ⟨ret_int HE.out.symm, rfl⟩
end Go.Proofs.Qxb6623450a
