import Derived.Test.Qxb6623478aWithin
namespace Go.Proofs.Qxb6623478a
open Go.RowKit Go.Deep
set_option linter.unusedSimpArgs false
set_option linter.unusedVariables false

theorem hidden {p : Prop} (h : p) : Hid p := h
def kcells (L : List (ByteArray × ByteArray)) : List Value := L.map fun p => .string p.1
def vcells (L : List (ByteArray × ByteArray)) : List Value := L.map fun p => .string p.2
theorem kcells_snoc (L : List (ByteArray × ByteArray)) (p : ByteArray × ByteArray) : kcells (L ++ [p]) = kcells L ++ [.string p.1] := by simp [kcells]
theorem vcells_snoc (L : List (ByteArray × ByteArray)) (p : ByteArray × ByteArray) : vcells (L ++ [p]) = vcells L ++ [.string p.2] := by simp [vcells]

/-- The two slices, of keys and of values, that the call has made so far. -/
structure Two (B : Nat) (w : World) (vk vv : Value) (K V : List (ByteArray × ByteArray)) : Prop where
  keys : w.ownsRow B 9 1 vk K.length (kcells K)
  vals : w.ownsRow B 9 1 vv V.length (vcells V)
  apart : ∀ g, vk.ownBlock = some g → vv.ownBlock ≠ some g

theorem owns_lt {w : World} {base n : Nat} {e : TypeId} {v : Value} {xs : List Value} (h : w.ownsRow base e 1 v n xs) : ∀ k, v.ownBlock = some k → k < w.heap.size := by
  intro k hk
  rcases h.2 with ⟨rfl, _⟩ | ⟨g, cap, cur, rfl, hb, hg, _⟩
  · cases hk
  · cases hk
    rcases Nat.lt_or_ge g w.heap.size with hlt | hge
    · exact hlt
    · rw [Array.getElem?_eq_none hge] at hg; cases hg

theorem Two.key {B : Nat} {w w2 : World} {vk vv : Value} {K V : List (ByteArray × ByteArray)} (h : Two B w vk vv K V) (ob : Obj) (p : ByteArray × ByteArray) (g n cap : Nat)
    (hn : n = K.length + 1) (hown : w2.ownsRow B 9 1 (.slice (some ⟨g, 0, none⟩) n cap) n (kcells K ++ [.string p.1])) (hgrow : (w.alloc ob).grownBy w2 vk.ownBlock) (hat : vk.ownBlock = some g ∨ g = (w.alloc ob).heap.size) :
    Two B w2 (.slice (some ⟨g, 0, none⟩) n cap) vv (K ++ [p]) V := by
  have hs : (w.alloc ob).heap.size = w.heap.size + 1 := by simp
  refine ⟨?_, ?_, ?_⟩
  · rw [kcells_snoc, List.length_append, List.length_singleton, ← hn]; exact hown
  · refine owns_keep (owns_alloc h.vals ob) (fun k hk => ?_)
    exact hgrow.block k (by rw [hs]; have := owns_lt h.vals k hk; omega) (fun e => h.apart k e.symm hk)
  · intro k hk hv
    cases hk
    rcases hat with hat | hat
    · exact h.apart g hat hv
    · have := owns_lt h.vals g hv
      omega
theorem Two.val {B : Nat} {w w2 : World} {vk vv : Value} {K V : List (ByteArray × ByteArray)} (h : Two B w vk vv K V) (ob : Obj) (p : ByteArray × ByteArray) (g n cap : Nat)
    (hn : n = V.length + 1) (hown : w2.ownsRow B 9 1 (.slice (some ⟨g, 0, none⟩) n cap) n (vcells V ++ [.string p.2])) (hgrow : (w.alloc ob).grownBy w2 vv.ownBlock) (hat : vv.ownBlock = some g ∨ g = (w.alloc ob).heap.size) :
    Two B w2 vk (.slice (some ⟨g, 0, none⟩) n cap) K (V ++ [p]) := by
  have hs : (w.alloc ob).heap.size = w.heap.size + 1 := by simp
  refine ⟨?_, ?_, ?_⟩
  · refine owns_keep (owns_alloc h.keys ob) (fun k hk => ?_)
    exact hgrow.block k (by rw [hs]; have := owns_lt h.keys k hk; omega) (fun e => h.apart k hk e.symm)
  · rw [vcells_snoc, List.length_append, List.length_singleton, ← hn]; exact hown
  · intro k hk hv
    cases hv
    rcases hat with hat | hat
    · exact h.apart g hk hat
    · have := owns_lt h.keys g hk
      omega

set_option maxRecDepth 100000 in
set_option maxHeartbeats 1000000 in
theorem inorder_any (w0 : World) : ∀ (T : Tr), Lies w0 T → ∀ (L : List (ByteArray × ByteArray)) (vk vv : Value) (w : World), Below w0.heap.size w0 w → Two w0.heap.size w vk vv L L → L.length + sz T ≤ 1048575 →
    Calls Try.prog 5 #[T.ptr, vk, vv] w fun e w' => ∃ vk' vv', e = .returned (.tuple #[vk', vv']) ∧ Two w0.heap.size w' vk' vv' (L ++ ino T) (L ++ ino T) ∧ Below w0.heap.size w0 w' := by
  intro T
  induction T with
  | nil =>
    intro _ L vk vv w hb h2 _
    show Calls Try.prog 5 #[.pointer none, vk, vv] w _
    go_enter Try.func5, Try.ntmps5
    go_wp2_with fail
    go_ret2
    exact ⟨vk, vv, rfl, by simpa [ino] using h2, hb⟩
  | node b o a l r ihl ihr =>
    intro hT L vk vv w hb h2 hlen
    simp only [sz] at hlen
    have HL : Hid (Lies w0 l) := hT.2.2.2.2.2.1
    have HR : Hid (Lies w0 r) := hT.2.2.2.2.2.2
    have HT : Hid (Lies w0 (.node b o a l r)) := hT
    have c3 := (lies_below hb hT).2.2.2.1
    have HIL := hidden (ihl HL.out)
    have HIR := hidden (ihr HR.out)
    clear ihl ihr hT
    show Calls Try.prog 5 #[.pointer (some ⟨b, o, none⟩), vk, vv] w _
    go_enter Try.func5, Try.ntmps5
    go_wp2_with fail
    refine (HIL.out L vk vv w hb h2 (by omega)).mono ?_
    rintro e w1 ⟨vk1, vv1, rfl, t1, hb1⟩
    clear c3
    obtain ⟨c0, c1, _, _, c4, _, _⟩ := lies_below hb1 HT.out
    have hs1 : w0.heap.size ≤ w1.heap.size := hb1.size
    have hle : (L ++ ino l).length = L.length + sz l := by rw [List.length_append, ino_len]
    have HLE : Hid ((L ++ ino l).length = L.length + sz l) := hle
    have hle1 : (L ++ ino l).length + 1 ≤ 1048576 := by omega
    clear hle hb h2
    generalize hM : L ++ ino l = M at t1 HLE hle1
    have HM := hidden hM
    clear hM
    go_wp2_with (first | (at_builtin; refine wpList_push rfl _ _ 24 9 (.string ⟨#[]⟩) 16 rfl Try.underlying24 elem9 rfl w0.heap.size vk1 M.length (kcells M) rfl (by exact owns_alloc t1.keys _) _ (.string a.1) rfl (by exact cell_new w1 _ _) rfl hle1 (by omega) (by simp; omega) ?_; intro g2 cap2 w2 hown2 hgrow2 hat2 hlt2; have t2 := t1.key _ (a.1, a.2.1) g2 (M.length + 1) cap2 rfl hown2 hgrow2 hat2; have hb2 : Below w0.heap.size w0 w2 := (hb1.alloc hs1 _).grown hgrow2 (by simp; omega) (own_block t1.keys); have hs2 : w0.heap.size ≤ w2.heap.size := hb2.size; have d1 := (lies_below hb2 HT.out).2.1) | (at_builtin; refine wpList_push rfl _ _ 24 9 (.string ⟨#[]⟩) 16 rfl Try.underlying24 elem9 rfl w0.heap.size vv1 M.length (vcells M) rfl (by exact owns_alloc t2.vals _) _ (.string a.2.1) rfl (by exact cell_new w2 _ _) rfl hle1 (by omega) (by simp; omega) ?_; intro g3 cap3 w3 hown3 hgrow3 hat3 hlt3; have t3 := t2.val _ (a.1, a.2.1) g3 (M.length + 1) cap3 rfl hown3 hgrow3 hat3; have hb3 : Below w0.heap.size w0 w3 := (hb2.alloc hs2 _).grown hgrow3 (by simp; omega) (own_block t2.vals); have d4 := (lies_below hb3 HT.out).2.2.2.2.1))
    refine (HIR.out (M ++ [(a.1, a.2.1)]) _ _ w3 hb3 t3 (by rw [List.length_append, HLE.out]; simp; omega)).mono ?_
    rintro e w4 ⟨vk4, vv4, rfl, t4, hb4⟩
    go_wp2_with fail
    go_ret2
    refine ⟨vk4, vv4, rfl, ?_, hb4⟩
    have : L ++ ino (.node b o a l r) = M ++ [(a.1, a.2.1)] ++ ino r := by rw [← HM.out]; simp [ino]
    rw [this]
    exact t4
end Go.Proofs.Qxb6623478a
