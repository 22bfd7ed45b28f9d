import Derived.Test.Qxb6623478aGet
import Derived.RegionTactic
namespace Go.Proofs.Qxb6623478a
open Go.RowKit Go.Deep
set_option linter.unusedSimpArgs false
set_option linter.unusedVariables false

theorem Two.drew {B : Nat} {w : World} {vk vv : Value} {K V : List (ByteArray × ByteArray)} (h : Two B w vk vv K V) : Two B w.drew vk vv K V := ⟨h.keys, h.vals, h.apart⟩
theorem kcells_at {M : List (ByteArray × ByteArray)} {j : Nat} (h : j < M.length) : (kcells M)[j]? = some (.string M[j].1) := by simp [kcells, h]
theorem vcells_at {M : List (ByteArray × ByteArray)} {j : Nat} (h : j < M.length) : (vcells M)[j]? = some (.string M[j].2) := by simp [vcells, h]
theorem two_nil (B : Nat) (w : World) : Two B w (.slice none 0 0) (.slice none 0 0) [] [] := ⟨⟨rfl, Or.inl ⟨rfl, rfl⟩⟩, ⟨rfl, Or.inl ⟨rfl, rfl⟩⟩, fun g h => by cases h⟩
theorem scan_at (key : ByteArray) : ∀ (M : List (ByteArray × ByteArray)) (k : Nat) (h : k < M.length), (∀ j (hj : j < k), keq (M[j]'(by omega)).1 key = false) → keq M[k].1 key = true → scan key M = some M[k].2
  | p :: M, 0, _, _, h2 => by simp only [scan]; rw [if_pos (by simpa using h2)]; rfl
  | p :: M, k + 1, h, h1, h2 => by
    have h0 := h1 0 (by omega)
    simp only [List.getElem_cons_zero] at h0
    simp only [scan]
    rw [if_neg (by simp [h0])]
    exact scan_at key M k (by simpa using h) (fun j hj => by simpa using h1 (j + 1) (by omega)) (by simpa using h2)

theorem owns_form {w : World} {base n : Nat} {e : TypeId} {v : Value} {xs : List Value} (h : w.ownsRow base e 1 v n xs) : ∃ ao cap, v = .slice ao n cap := by
  rcases h.2 with ⟨hv, h0⟩ | ⟨g, cap, cur, hv, _⟩
  · exact ⟨none, 0, by rw [hv, h0]⟩
  · exact ⟨_, cap, hv⟩
theorem owns_some {w : World} {base n cap : Nat} {ao : Option Addr} {e : TypeId} {xs : List Value} (h : w.ownsRow base e 1 (.slice ao n cap) n xs) (hn : 0 < n) : ∃ g, ao = some ⟨g, 0, none⟩ ∧ ∀ j u, xs[j]? = some u → w.cell? ⟨g, j, none⟩ = some u := by
  obtain ⟨g, cap', hv, _⟩ := owns_at h hn
  injection hv with h1 h2 h3
  subst h1
  exact ⟨g, rfl, fun j u hj => owns_cell h hj⟩

set_option maxRecDepth 100000 in
set_option maxHeartbeats 2000000 in
theorem law_any (T : Tr) (key : ByteArray) (w : World) (hk : key.size ≤ maxLen) (hT : Lies w T) :
    Calls Try.prog 3 #[T.ptr, .string key] w fun e w' => e = .returned (.bool true) ∧ Below w.heap.size w w' := by
  have HT := hidden hT
  have HW := hidden (within_any T key w hk hT)
  have HI := hidden (inorder_any w T hT [] (.slice none 0 0) (.slice none 0 0))
  have HK := hidden (tokv_any w T hT)
  clear hT
  go_enter Try.func3, Try.ntmps3
  go_wp2_with fail
  refine HW.out.mono ?_
  rintro e w1 ⟨⟨b, rfl, hb1⟩, bel1⟩
  have HSz := hidden hb1
  clear hb1
  cases b with
  | false =>
    go_wp2
    go_ret
    exact ⟨rfl, bel1⟩
  | true =>
    go_wp2_with fail
    have hsz : sz T ≤ 4096 := HSz.out trivial
    refine (HI.out w1 bel1 (two_nil _ _) (by simp; omega)).mono ?_
    rintro e w2 ⟨vk, vv, rfl, h2, bel2⟩
    rw [List.nil_append] at h2
    have hM : (ino T).length ≤ 4096 := by rw [ino_len]; exact hsz
    have HLS := hidden (look_scan key T)
    clear HW HI HSz bel1
    generalize hMM : ino T = M at h2 hM HLS
    clear hMM
    obtain ⟨ao, cap, rfl⟩ := owns_form h2.keys
    obtain ⟨av, capv, rfl⟩ := owns_form h2.vals
    have H2 := hidden h2
    have HB2 := hidden bel2
    clear h2 bel2 hsz
    go_wp2
    go_loopw [7] (fun i wr => ∃ j : Nat, j ≤ 4096 ∧ i = .int .i64 ((j : Int) + 1) ∧ Hid (∀ q (hq : q + 1 < M.length), q < j → klt M[q].1 M[q + 1].1 = true) ∧ Hid (Two w.heap.size wr (.slice ao M.length cap) (.slice av M.length capv) M M) ∧ Hid (Below w.heap.size w wr)) (fun i _ => (4098 - intOf i).toNat)
    case atStart => exact ⟨0, by omega, rfl, fun q hq h => by omega, H2, HB2⟩
    case round =>
      clear H2 HB2
      obtain ⟨j, hj, rfl, HR, H2, HB2⟩ := hrel
      by_cases hlt : j + 1 < M.length
      · obtain ⟨g, rfl, hcell⟩ := owns_some H2.out.keys (by omega)
        have hc0 := hcell j _ (kcells_at (by omega))
        have hc1 := hcell (j + 1) _ (kcells_at hlt)
        have i0 : (0 : Int) ≤ (j : Int) := by omega
        have i1 : (j : Int) < (M.length : Int) := by omega
        have i2 : (j : Int) + 1 < (M.length : Int) := by omega
        clear hcell
        by_cases hl : Op.bytesLess M[j].1.toList M[j + 1].1.toList = true
        · have HR2 : Hid (∀ q (hq : q + 1 < M.length), q < j + 1 → klt M[q].1 M[q + 1].1 = true) := fun q hq h => by
            by_cases e : q = j
            · subst e; exact hl
            · exact HR.out q hq (by omega)
          go_wp2
          go_region
          go_wp2
          go_roundw
          case rel => exact ⟨j + 1, by omega, by go_num, HR2, H2.out.drew, HB2.out.drew⟩
          case measure => simp [intOf]; omega
        · have hl' : Op.bytesLess M[j].1.toList M[j + 1].1.toList = false := by simpa using hl
          go_wp2
          go_region
          go_wp2
          go_ret
          exact ⟨rfl, HB2.out.drew⟩
      · have HRise : Hid (Rising M) := rising_of M (fun q hq => HR.out q hq (by omega))
        have hge : ¬ (j : Int) + 1 < (M.length : Int) := by omega
        clear HR
        go_wp2
        clear hge hlt
        go_loopw [8, 9, 10] (fun a c i w3 => ∃ k : Nat, k ≤ M.length ∧ a = .string ⟨#[]⟩ ∧ c = .bool false ∧ i = .int .i64 k ∧ Hid (∀ q (hq : q < M.length), q < k → keq M[q].1 key = false) ∧ Hid (Two w.heap.size w3 (.slice ao M.length cap) (.slice av M.length capv) M M) ∧ Hid (Below w.heap.size w w3)) (fun _ _ i _ => (4098 - intOf i).toNat)
        case atStart => exact ⟨0, by omega, rfl, rfl, rfl, fun q hq h => by omega, H2, HB2⟩
        case round =>
          clear H2 HB2
          rename_i wr2 _
          obtain ⟨k, hk1, rfl, rfl, rfl, HS, H2, HB3⟩ := hrel
          by_cases hlt : k < M.length
          · obtain ⟨g, rfl, hcell⟩ := owns_some H2.out.keys (by omega)
            obtain ⟨g', rfl, hcell'⟩ := owns_some H2.out.vals (by omega)
            have hc0 := hcell k _ (kcells_at hlt)
            have hc1 := hcell' k _ (vcells_at hlt)
            have i1 : (k : Int) < (M.length : Int) := by omega
            clear hcell hcell'
            by_cases he : (M[k].1.toList == key.toList) = true
            · have HN : Hid (scan key M = some M[k].2) := scan_at key M k hlt (fun j hj => HS.out j (by omega) hj) he
              clear HS
              go_wp2_with fail
              refine (HK.out _ HB3.out).mono ?_
              rintro e w4 ⟨U, x, hx, rfl, hal, hlU, bel4⟩
              have HG := hidden (zzget_any U x key w4 hx hlU)
              have HA : Hid (look key U = scan key M) := (look_alike key T U hal).trans (HLS.out HRise.out)
              have HB4 := hidden (HB3.out.trans (bel4.mono HB3.out.size))
              clear hx hal hlU bel4
              go_wp2_with fail
              refine HG.out.mono ?_
              rintro e w5 ⟨⟨gv, gb, rfl, hg1, hg2⟩, bel5⟩
              have HB5 := hidden (HB4.out.trans (bel5.mono HB4.out.size))
              clear HG bel5
              cases gb with
              | false =>
                have := (hg2 rfl).1
                rw [HA.out, HN.out] at this
                cases this
              | true =>
                have e1 := hg1 rfl
                rw [HA.out, HN.out] at e1
                have e2 : gv = M[k].2 := (Option.some.inj e1).symm
                subst e2
                clear hg1 hg2 e1
                go_wp2
                go_ret
                exact ⟨rfl, HB5.out⟩
            · have he' : (M[k].1.toList == key.toList) = false := by simpa using he
              have HS2 : Hid (∀ q (hq : q < M.length), q < k + 1 → keq M[q].1 key = false) := fun q hq h => by
                by_cases e : q = k
                · subst e; exact he'
                · exact HS.out q hq (by omega)
              go_wp2
              go_roundw
              case rel => exact ⟨k + 1, by omega, rfl, rfl, by go_num, HS2, H2, HB3⟩
              case measure => simp [intOf]; omega
          · have HN : Hid (scan key M = none) := scan_none key M (fun p hp => by
              obtain ⟨q, hq, rfl⟩ := List.getElem_of_mem hp
              exact HS.out q hq (by omega))
            have hge : ¬ (k : Int) < (M.length : Int) := by omega
            clear HS
            go_wp2_with fail
            refine (HK.out _ HB3.out).mono ?_
            rintro e w4 ⟨U, x, hx, rfl, hal, hlU, bel4⟩
            have HG := hidden (zzget_any U x key w4 hx hlU)
            have HA : Hid (look key U = scan key M) := (look_alike key T U hal).trans (HLS.out HRise.out)
            have HB4 := hidden (HB3.out.trans (bel4.mono HB3.out.size))
            clear hx hal hlU bel4
            go_wp2_with fail
            refine HG.out.mono ?_
            rintro e w5 ⟨⟨gv, gb, rfl, hg1, hg2⟩, bel5⟩
            have HB5 := hidden (HB4.out.trans (bel5.mono HB4.out.size))
            clear HG bel5
            cases gb with
            | true =>
              have := hg1 rfl
              rw [HA.out, HN.out] at this
              cases this
            | false =>
              obtain ⟨_, rfl⟩ := hg2 rfl
              clear hg1 hg2
              go_wp2
              go_ret
              exact ⟨rfl, HB5.out⟩
end Go.Proofs.Qxb6623478a
