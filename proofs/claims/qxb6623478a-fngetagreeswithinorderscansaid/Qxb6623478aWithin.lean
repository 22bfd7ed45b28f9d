import Derived.Test.Qxb6623478aBase
namespace Go.Proofs.Qxb6623478a
open Go.RowKit Go.Deep
set_option linter.unusedSimpArgs false
set_option linter.unusedVariables false

def total (st : List Tr) : Nat := (st.map sz).sum
theorem total_snoc (st : List Tr) (t : Tr) : total (st ++ [t]) = total st + sz t := by simp [total]
/-- The call came back with a bool that is true only if p holds. -/
def Only (p : Prop) (e : Ending) : Prop := ∃ b : Bool, e = .returned (.bool b) ∧ (b = true → p)

theorem owns_alloc {w : World} {base n : Nat} {e : TypeId} {v : Value} {xs : List Value} (h : w.ownsRow base e 1 v n xs) (ob : Obj) : (w.alloc ob).ownsRow base e 1 v n xs := by
  obtain ⟨hl, h2⟩ := h
  refine ⟨hl, ?_⟩
  rcases h2 with h2 | ⟨g, cap, cur, hv, hb, hg, r⟩
  · exact Or.inl h2
  · refine Or.inr ⟨g, cap, cur, hv, hb, ?_, r⟩
    have hlt : g < w.heap.size := by
      rcases Nat.lt_or_ge g w.heap.size with hlt | hge
      · exact hlt
      · rw [Array.getElem?_eq_none hge] at hg; cases hg
    rw [Below.heap_alloc w ob g hlt]; exact hg
theorem own_block {w : World} {base n : Nat} {e : TypeId} {v : Value} {xs : List Value} (h : w.ownsRow base e 1 v n xs) : ∀ k, v.ownBlock = some k → base ≤ k := by
  intro k hk
  rcases h.2 with ⟨rfl, _⟩ | ⟨g, cap, cur, rfl, hb, _⟩
  · cases hk
  · cases hk; exact hb

theorem cell_new (w : World) (u : Value) (t : TypeId) : (w.alloc (.cells #[u] t)).cell? ⟨w.heap.size, 0, none⟩ = some u := by
  rw [cell_of_row _ _ 0 #[u] t (0, 0) (heap_alloc_new w _)]; rfl

theorem ptr_one (t : Tr) : t.ptr.oneCell' = true := by cases t <;> rfl

/-- What holds at the loop's head in zzWithin. -/
structure Stack (w : World) (T : Tr) (y : Value) (sv : Value) (vs : Value) (wr : World) (st : List Tr) (v : Nat) : Prop where
  bytes : ∃ z : Int, y = .int .i64 z
  vis : vs = .int .i64 v
  few : v ≤ 4096
  len : st.length ≤ v + 1
  sum : v + total st = sz T
  lie : ∀ t ∈ st, t ≠ .nil ∧ Lies w t
  own : wr.ownsRow w.heap.size 22 1 sv st.length (st.map BT.ptr)
  bel : Below w.heap.size w wr

set_option maxRecDepth 100000 in
set_option maxHeartbeats 1000000 in
theorem within_any (T : Tr) (key : ByteArray) (w : World) (hk : key.size ≤ maxLen) (hT : Lies w T) :
    Calls Try.prog 4 #[T.ptr, .string key] w fun e w' => Only (sz T ≤ 4096) e ∧ Below w.heap.size w w' := by
  unfold maxLen at hk
  by_cases h1 : (1048576 : Int) < key.size
  · go_enter Try.func4, Try.ntmps4
    go_wp2
    go_ret
    exact ⟨⟨false, rfl, fun h => by cases h⟩, Below.refl _ _⟩
  cases T with
  | nil =>
    show Calls Try.prog 4 #[.pointer none, .string key] w _
    go_enter Try.func4, Try.ntmps4
    go_wp2
    go_ret
    exact ⟨⟨true, rfl, fun _ => by simp [sz]⟩, Below.refl _ _⟩
  | node b o a l r =>
    have hT' := hT
    generalize hTT : (BT.node b o a l r : Tr) = T at *
    show Calls Try.prog 4 #[T.ptr, .string key] w _
    have hp : T.ptr = .pointer (some ⟨b, o, none⟩) := by rw [← hTT]; rfl
    rw [hp]
    go_enter Try.func4, Try.ntmps4
    go_wp2
    go_loopw [5, 6, 7] (fun y sv vs wr => ∃ st v, Stack w T y sv vs wr st v) (fun _ _ vs _ => (4097 - intOf vs).toNat)
    case atStart =>
      refine ⟨[T], 0, ⟨_, rfl⟩, rfl, by omega, by simp, by simp [total], ?_, ?_, (Below.refl _ _).alloc (Nat.le_refl _) _⟩
      · intro t ht
        simp at ht; subst ht
        exact ⟨(by rw [← hTT]; intro h; cases h), hT'⟩
      · refine ⟨rfl, Or.inr ⟨w.heap.size, 1, #[.pointer (some ⟨b, o, none⟩)], rfl, Nat.le_refl _, heap_alloc_new w _, by simp, by unfold maxLen; omega, rfl, ?_⟩⟩
        simp [hp]
    case round =>
      obtain ⟨st, v, ⟨z, rfl⟩, rfl, hfew, hlen, hsum, hlie, hown, hbel⟩ := hrel
      rcases List.eq_nil_or_concat st with rfl | ⟨st', t, rfl⟩
      · have HS : Hid (sz T ≤ 4096) := by show _ ≤ _; simp [total] at hsum; omega
        rcases hown.2 with ⟨rfl, _⟩ | ⟨g, cap, cur, rfl, _⟩
        · go_wp2
          go_ret
          exact ⟨⟨true, rfl, fun _ => HS.out⟩, hbel⟩
        · go_wp2
          go_ret
          exact ⟨⟨true, rfl, fun _ => HS.out⟩, hbel⟩
      · simp only [List.concat_eq_append] at *
        simp only [List.length_append, List.length_cons, List.length_nil, Nat.zero_add, List.map_append, List.map_cons, List.map_nil] at hlen hown
        rw [total_snoc] at hsum
        obtain ⟨hne, hl⟩ := hlie t (by simp)
        have hlie' : ∀ u ∈ st', u ≠ .nil ∧ Lies w u := fun u hu => hlie u (by simp [hu])
        clear hlie
        cases t with
        | nil => exact absurd rfl hne
        | node tb to ta tl tr =>
          clear hne
          have hl1 := lies_below hbel hl
          obtain ⟨g, cap, rfl, hgb, hgc, hgm, hgl⟩ := owns_at hown (by omega)
          have hct := owns_cell hown (j := st'.length) (u := .pointer (some ⟨tb, to, none⟩)) (by simp [BT.ptr])
          have hpop := ownsRow_pop (by simp) hown
          unfold maxLen at hgm
          obtain ⟨c0, c1, c2, c3, c4, hll, hlr⟩ := hl1
          simp only [sz] at hsum
          have HS : Hid (v + (total st' + (sz tl + 1 + sz tr)) = sz T) := hsum
          have HL : Hid (∀ u ∈ st', u ≠ .nil ∧ Lies w u) := hlie'
          have HP := hpop
          have HT : Hid (Lies w (.node tb to ta tl tr)) := hl
          clear hsum hlie' hown hpop hp hTT hT hT' hl
          by_cases hv : v < 4096
          case neg =>
            have hv2 : (4096 : Int) < (v : Int) + 1 := by omega
            go_wp2
            go_ret
            exact ⟨⟨false, rfl, fun h => by cases h⟩, hbel⟩
          have hv2 : (v : Int) + 1 ≤ 4096 := by omega
          go_wp2
          go_region
          generalize wrap64 (z + wrap64 (↑ta.fst.size + ↑ta.snd.fst.size)) = z'
          by_cases hz : (1048576 : Int) < z'
          · go_wp2
            go_ret
            exact ⟨⟨false, rfl, fun h => by cases h⟩, hbel.drew⟩
          have hwr : w.heap.size ≤ wr.heap.size := hbel.size
          cases tl with
          | nil =>
            replace c3 : wr.cell? ⟨tb, to + 3, none⟩ = some (.pointer none) := c3
            cases tr with
            | nil =>
              replace c4 : wr.cell? ⟨tb, to + 4, none⟩ = some (.pointer none) := c4
              go_wp2
              go_roundw
              case rel => exact ⟨st', v + 1, ⟨_, rfl⟩, by go_num, by omega, by omega, by have := HS.out; simp only [sz] at this; omega, HL.out, HP, hbel.drew⟩
              case measure => simp [intOf]; omega
            | node rb ro ra rl rr =>
              replace c4 : wr.cell? ⟨tb, to + 4, none⟩ = some (.pointer (some ⟨rb, ro, none⟩)) := c4
              go_wp2_with ((at_builtin; refine wpList_push rfl _ _ 31 22 (.pointer none) 8 rfl Try.underlying31 elem22 rfl w.heap.size _ _ _ rfl (by exact owns_alloc HP _) _ _ rfl (by exact cell_new wr _ _) rfl (by omega) (by omega) (by simp; omega) ?_; intro g1 cap1 w1 hown1 hgrow1 hat1 hlt1))
              have hb1 : Below w.heap.size w w1 := ((hbel.alloc hwr _).drew).grown hgrow1 (by simp; omega) (own_block HP)
              go_roundw
              case rel =>
                refine ⟨st' ++ [.node rb ro ra rl rr], v + 1, ⟨_, rfl⟩, by go_num, by omega, by simp; omega, ?_, ?_, ?_, hb1⟩
                · rw [total_snoc]; have := HS.out; simp only [sz] at this ⊢; omega
                · intro u hu
                  rcases List.mem_append.1 hu with hu | hu
                  · exact HL.out u hu
                  · simp at hu; subst hu
                    exact ⟨(by intro h; cases h), HT.out.2.2.2.2.2.2⟩
                · simpa [BT.ptr] using hown1
              case measure => simp [intOf]; omega
          | node lb lo la ll lr =>
            replace c3 : wr.cell? ⟨tb, to + 3, none⟩ = some (.pointer (some ⟨lb, lo, none⟩)) := c3
            cases tr with
            | nil =>
              replace c4 : wr.cell? ⟨tb, to + 4, none⟩ = some (.pointer none) := c4
              go_wp2_with ((at_builtin; refine wpList_push rfl _ _ 31 22 (.pointer none) 8 rfl Try.underlying31 elem22 rfl w.heap.size _ _ _ rfl (by exact owns_alloc HP _) _ _ rfl (by exact cell_new wr _ _) rfl (by omega) (by omega) (by simp; omega) ?_; intro g1 cap1 w1 hown1 hgrow1 hat1 hlt1; have hb1 : Below w.heap.size w w1 := ((hbel.alloc hwr _).drew).grown hgrow1 (by simp; omega) (own_block HP); have hs1 : w.heap.size ≤ w1.heap.size := hb1.size; have d3 : w1.cell? ⟨tb, to + 3, none⟩ = some (.pointer (some ⟨lb, lo, none⟩)) := (lies_below hb1 HT.out).2.2.2.1; have d4 : w1.cell? ⟨tb, to + 4, none⟩ = some (.pointer none) := (lies_below hb1 HT.out).2.2.2.2.1))
              go_roundw
              case rel =>
                refine ⟨st' ++ [.node lb lo la ll lr], v + 1, ⟨_, rfl⟩, by go_num, by omega, by simp; omega, ?_, ?_, ?_, hb1⟩
                · rw [total_snoc]; have := HS.out; simp only [sz] at this ⊢; omega
                · intro u hu
                  rcases List.mem_append.1 hu with hu | hu
                  · exact HL.out u hu
                  · simp at hu; subst hu
                    exact ⟨(by intro h; cases h), HT.out.2.2.2.2.2.1⟩
                · simpa [BT.ptr] using hown1
              case measure => simp [intOf]; omega
            | node rb ro ra rl rr =>
              replace c4 : wr.cell? ⟨tb, to + 4, none⟩ = some (.pointer (some ⟨rb, ro, none⟩)) := c4
              go_wp2_with (first | (at_builtin; refine wpList_push rfl _ _ 31 22 (.pointer none) 8 rfl Try.underlying31 elem22 rfl w.heap.size _ _ _ rfl (by exact owns_alloc HP _) _ _ rfl (by exact cell_new wr _ _) rfl (by omega) (by omega) (by simp; omega) ?_; intro g1 cap1 w1 hown1 hgrow1 hat1 hlt1; have hb1 : Below w.heap.size w w1 := ((hbel.alloc hwr _).drew).grown hgrow1 (by simp; omega) (own_block HP); have hs1 : w.heap.size ≤ w1.heap.size := hb1.size; have d3 : w1.cell? ⟨tb, to + 3, none⟩ = some (.pointer (some ⟨lb, lo, none⟩)) := (lies_below hb1 HT.out).2.2.2.1; have d4 : w1.cell? ⟨tb, to + 4, none⟩ = some (.pointer (some ⟨rb, ro, none⟩)) := (lies_below hb1 HT.out).2.2.2.2.1) | (at_builtin; refine wpList_push rfl _ _ 31 22 (.pointer none) 8 rfl Try.underlying31 elem22 rfl w.heap.size _ _ _ rfl (by exact owns_alloc hown1 _) _ _ rfl (by exact cell_new w1 _ _) rfl (by omega) (by omega) (by simp; omega) ?_; intro g2 cap2 w2 hown2 hgrow2 hat2 hlt2))
              have hb2 : Below w.heap.size w w2 := (hb1.alloc hb1.size _).grown hgrow2 (by simp; omega) (own_block hown1)
              go_roundw
              case rel =>
                refine ⟨st' ++ [.node lb lo la ll lr] ++ [.node rb ro ra rl rr], v + 1, ⟨_, rfl⟩, by go_num, by omega, by simp; omega, ?_, ?_, ?_, hb2⟩
                · rw [total_snoc, total_snoc]; have := HS.out; simp only [sz] at this ⊢; omega
                · intro u hu
                  rcases List.mem_append.1 hu with hu | hu
                  · rcases List.mem_append.1 hu with hu | hu
                    · exact HL.out u hu
                    · simp at hu; subst hu
                      exact ⟨(by intro h; cases h), HT.out.2.2.2.2.2.1⟩
                  · simp at hu; subst hu
                    exact ⟨(by intro h; cases h), HT.out.2.2.2.2.2.2⟩
                · simpa [BT.ptr] using hown2
              case measure => simp [intOf]; omega
end Go.Proofs.Qxb6623478a
