import Derived.Test.Qxb6623450aWalk
namespace Go.Proofs.Qxb6623450a
open Go.RowKit
set_option linter.unusedSimpArgs false
set_option linter.unusedVariables false

set_option maxHeartbeats 400000 in
theorem bytes_yes (s t : ByteArray) (w : World) (h : s.size + t.size ≤ 1048576) :
    Calls Try.prog 4 #[.string s, .string t] w fun e w' => e = .returned (.bool true) ∧ w' = w := by
  have h1 : (s.size : Int) ≤ 1048576 := by omega
  have h2 : (t.size : Int) ≤ 1048576 := by omega
  have h3 : (s.size : Int) + (t.size : Int) ≤ 1048576 := by omega
  go_enter Try.func4, Try.ntmps4
  go_wp2
  go_ret
  exact ⟨rfl, rfl⟩
set_option maxHeartbeats 400000 in
theorem bytes_no (s t : ByteArray) (w : World) (hs : s.size ≤ maxLen) (ht : t.size ≤ maxLen) (h : ¬ s.size + t.size ≤ 1048576) :
    Calls Try.prog 4 #[.string s, .string t] w fun e w' => e = .returned (.bool false) ∧ w' = w := by
  unfold maxLen at hs ht
  by_cases h1 : (1048576 : Int) < s.size
  · go_enter Try.func4, Try.ntmps4
    go_wp2
    go_ret
    exact ⟨rfl, rfl⟩
  · by_cases h2 : (1048576 : Int) < t.size
    · go_enter Try.func4, Try.ntmps4
      go_wp2
      go_ret
      exact ⟨rfl, rfl⟩
    · have h3 : (1048576 : Int) < (s.size : Int) + (t.size : Int) := by omega
      go_enter Try.func4, Try.ntmps4
      go_wp2
      go_ret
      exact ⟨rfl, rfl⟩

theorem qe_fe (s : ByteArray) : QE s = FE s := qend_fend _ _ _ (Nat.le_refl _)
theorem qe_bd (s : ByteArray) : QE s = -1 ∨ (2 ≤ QE s ∧ QE s ≤ s.size) := by
  rcases qend_bd _ (s.data.toList.drop 1) 1 (Nat.le_refl _) with h | h
  · exact Or.inl h
  · right
    have : (s.data.toList.drop 1).length = s.size - 1 := by simp
    rw [this] at h
    show 2 ≤ qend _ 1 ∧ qend _ 1 ≤ _
    omega
theorem data_app (s t : ByteArray) : (s ++ t).data.toList = s.data.toList ++ t.data.toList := by simp
theorem drop_app (s t : ByteArray) (h : 0 < s.size) : (s ++ t).data.toList.drop 1 = s.data.toList.drop 1 ++ t.data.toList := by
  rw [data_app, List.drop_append_of_le_length (by have : s.data.toList.length = s.size := by simp
                                                  omega)]
theorem qe_closed (s t : ByteArray) (h : QE s ≠ -1) : QE (s ++ t) = QE s := by
  have hp : 0 < s.size := by have := qe_bd s; omega
  unfold QE
  rw [drop_app s t hp]
  exact (qend_append _ _ _ _ (Nat.le_refl _)).1 h
theorem qe_open (s t : ByteArray) (h : QE s = -1) (hp : 0 < s.size) : QE (s ++ t) = -1 ∨ (s.size : Int) < QE (s ++ t) := by
  unfold QE
  rw [drop_app s t hp]
  rcases (qend_append _ (s.data.toList.drop 1) t.data.toList 1 (Nat.le_refl _)).2 h with g | g
  · exact Or.inl g
  · right
    have : (s.data.toList.drop 1).length = s.size - 1 := by simp
    rw [this] at g
    omega
theorem qe_empty (s t : ByteArray) (h : s.size = 0) : QE (s ++ t) = FE t := by
  rw [← qe_fe]
  unfold QE
  rw [data_app]
  have : s.data.toList = [] := List.eq_nil_of_length_eq_zero (by simpa using h)
  rw [this, List.nil_append]
theorem qe_cut (s : ByteArray) (h : QE s ≠ -1) : QE (s.extract 0 (QE s - 1).toNat) = -1 := by
  have hb := (qe_bd s).resolve_left h
  have e : (s.extract 0 (QE s - 1).toNat).data.toList.drop 1 = (s.data.toList.drop 1).take (QE s - 1 - 1).toNat := by
    rw [ByteArray.data_extract, Array.toList_extract, List.extract_eq_take_drop]
    simp only [List.drop_zero, Nat.sub_zero]
    rw [List.drop_take]
    congr 1
    omega
  have := qend_cut _ (s.data.toList.drop 1) 1 (Nat.le_refl _) h
  show qend _ 1 = -1
  rw [e]
  exact this

set_option maxHeartbeats 400000 in
theorem law_any (s t : ByteArray) (w : World) (hs : s.size ≤ maxLen) (ht : t.size ≤ maxLen) :
    Calls Try.prog 3 #[.string s, .string t] w fun e w' => e = .returned (.bool true) ∧ Grown w w' := by
  by_cases h0 : s.size + t.size ≤ 1048576
  case neg =>
    go_enter Try.func3, Try.ntmps3
    go_wp2_with (go_at_call 4; refine (bytes_no s t _ hs ht h0).mono ?_; rintro e w' ⟨rfl, rfl⟩)
    go_ret
    exact ⟨rfl, Grown.refl _⟩
  clear hs ht
  by_cases h1 : (524288 : Int) < s.size
  · go_enter Try.func3, Try.ntmps3
    go_wp2_with (go_at_call 4; refine (bytes_yes s t _ h0).mono ?_; rintro e w' ⟨rfl, rfl⟩)
    go_ret
    exact ⟨rfl, Grown.refl _⟩
  by_cases h2 : (524288 : Int) < t.size
  · go_enter Try.func3, Try.ntmps3
    go_wp2_with (go_at_call 4; refine (bytes_yes s t _ h0).mono ?_; rintro e w' ⟨rfl, rfl⟩)
    go_ret
    exact ⟨rfl, Grown.refl _⟩
  have HF : Hid (FE s = QE s) := (qe_fe s).symm
  have happ : (s ++ t).size = s.size + t.size := by simp
  have b1 : (s.size : Int) ≤ 524288 := by omega
  have b2 : (t.size : Int) ≤ 524288 := by omega
  by_cases hq : QE s = -1
  · have hne : (QE s != -1) = false := by simp [hq]
    by_cases hz : s.size = 0
    · have hzz : ((s.size : Int) == 0) = true := by simp [hz]
      have HJ : Hid (QE (s ++ t) = FE t) := qe_empty s t hz
      clear hq hz
      go_enter Try.func3, Try.ntmps3
      go_wp2_with fail
      refine (bytes_yes s t _ h0).mono ?_
      rintro e w' ⟨rfl, rfl⟩
      go_wp2_with fail
      refine (zzquoted_any s _ (by omega)).mono ?_
      rintro e w' ⟨rfl, rfl⟩
      go_wp2_with fail
      refine (first_any s _ (by omega)).mono ?_
      rw [HF.out]
      rintro e w' ⟨rfl, rfl⟩
      go_wp2_with fail
      refine (zzquoted_any (s ++ t) _ (by rw [happ]; omega)).mono ?_
      rw [HJ.out]
      rintro e w' ⟨rfl, rfl⟩
      go_wp2_with fail
      refine (first_any t _ (by omega)).mono ?_
      rintro e w' ⟨rfl, rfl⟩
      go_wp2
      go_ret
      exact ⟨rfl, Grown.refl _⟩
    · have hzz : ((s.size : Int) == 0) = false := by rw [beq_eq_false_iff_ne]; omega
      have HO := qe_open s t hq (by omega)
      clear hq hz
      by_cases hj : QE (s ++ t) = -1
      · have hjj : (QE (s ++ t) == -1) = true := by simp [hj]
        clear hj HO
        go_enter Try.func3, Try.ntmps3
        go_wp2_with fail
        refine (bytes_yes s t _ h0).mono ?_
        rintro e w' ⟨rfl, rfl⟩
        go_wp2_with fail
        refine (zzquoted_any s _ (by omega)).mono ?_
        rintro e w' ⟨rfl, rfl⟩
        go_wp2_with fail
        refine (first_any s _ (by omega)).mono ?_
        rw [HF.out]
        rintro e w' ⟨rfl, rfl⟩
        go_wp2_with fail
        refine (zzquoted_any (s ++ t) _ (by rw [happ]; omega)).mono ?_
        rintro e w' ⟨rfl, rfl⟩
        go_wp2
        go_ret
        exact ⟨rfl, Grown.refl _⟩
      · have hjj : (QE (s ++ t) == -1) = false := by simp [hj]
        have hgt := HO.resolve_left hj
        clear hj HO
        go_enter Try.func3, Try.ntmps3
        go_wp2_with fail
        refine (bytes_yes s t _ h0).mono ?_
        rintro e w' ⟨rfl, rfl⟩
        go_wp2_with fail
        refine (zzquoted_any s _ (by omega)).mono ?_
        rintro e w' ⟨rfl, rfl⟩
        go_wp2_with fail
        refine (first_any s _ (by omega)).mono ?_
        rw [HF.out]
        rintro e w' ⟨rfl, rfl⟩
        go_wp2_with fail
        refine (zzquoted_any (s ++ t) _ (by rw [happ]; omega)).mono ?_
        rintro e w' ⟨rfl, rfl⟩
        go_wp2
        go_ret
        exact ⟨rfl, Grown.refl _⟩
  · have hb := (qe_bd s).resolve_left hq
    have HJ : Hid (QE (s ++ t) = QE s) := qe_closed s t hq
    have HCut : Hid (QE (s.extract 0 ((QE s).toNat - 1)) = -1) := by
      have := qe_cut s hq
      rwa [show (QE s - 1).toNat = (QE s).toNat - 1 by omega] at this
    have hne : (QE s != -1) = true := by simp [hq]
    clear hq
    go_enter Try.func3, Try.ntmps3
    go_wp2_with fail
    refine (bytes_yes s t _ h0).mono ?_
    rintro e w' ⟨rfl, rfl⟩
    go_wp2_with fail
    refine (zzquoted_any s _ (by omega)).mono ?_
    rintro e w' ⟨rfl, rfl⟩
    go_wp2_with fail
    refine (first_any s _ (by omega)).mono ?_
    rw [HF.out]
    rintro e w' ⟨rfl, rfl⟩
    go_wp2_with fail
    refine (zzquoted_any (s ++ t) _ (by rw [happ]; omega)).mono ?_
    rw [HJ.out]
    rintro e w' ⟨rfl, rfl⟩
    go_wp2_with fail
    refine (zzquoted_any (s.extract 0 ((QE s).toNat - 1)) _ (by rw [ByteArray.size_extract]; omega)).mono ?_
    rw [HCut.out]
    rintro e w' ⟨rfl, rfl⟩
    go_wp2
    go_ret
    exact ⟨rfl, Grown.refl _⟩
end Go.Proofs.Qxb6623450a
