import Derived.Test.Qxb6623478aRows
import Derived.Test.Qxb6623478aPlain
import Derived.WalkKit
import Derived.WalkSpells
import Derived.WalkLawsBesides
import Derived.Deep.AppendLies
import Derived.WalkSmall
namespace Go.Proofs.Qxb6623478a
open Go.RowKit Go.Deep
set_option linter.unusedSimpArgs false
set_option linter.unusedVariables false

/-- The nodes of the tree lie in the world. -/
def Lies (w : World) : Tr → Prop
  | .nil => True
  | .node b o a l r => w.cell? ⟨b, o, none⟩ = some (.string a.1) ∧ w.cell? ⟨b, o + 1, none⟩ = some (.string a.2.1) ∧ w.cell? ⟨b, o + 2, none⟩ = some (.int .u64 a.2.2) ∧
      w.cell? ⟨b, o + 3, none⟩ = some l.ptr ∧ w.cell? ⟨b, o + 4, none⟩ = some r.ptr ∧ Lies w l ∧ Lies w r

theorem lies_below {w w' : World} (h : Below w.heap.size w w') : ∀ {T : Tr}, Lies w T → Lies w' T
  | .nil, _ => trivial
  | .node b o a l r, ⟨h0, h1, h2, h3, h4, hl, hr⟩ => by
    have hb : b < w.heap.size := World.block_lt_of_cell? _ _ h0
    exact ⟨by rw [h.cell (p := ⟨b, o, none⟩) hb]; exact h0, by rw [h.cell (p := ⟨b, o + 1, none⟩) hb]; exact h1, by rw [h.cell (p := ⟨b, o + 2, none⟩) hb]; exact h2,
      by rw [h.cell (p := ⟨b, o + 3, none⟩) hb]; exact h3, by rw [h.cell (p := ⟨b, o + 4, none⟩) hb]; exact h4, lies_below h hl, lies_below h hr⟩

theorem below_behind {w0 W w1 : World} (h : Below w0.heap.size w0 W) (hc : Below W.heap.size W w1) : Below w0.heap.size w0 w1 := h.trans (hc.mono h.size)

theorem info_of {P : Program} {e : TypeId} {z : Value} {s b : Nat} (h : (P.info? e).map (fun i => (i.zero, i.size, i.bytes)) = some (some z, s, b)) : ∃ i, P.info? e = some i ∧ i.zero = some z ∧ i.size = s ∧ i.bytes = b := by
  cases hi : P.info? e with
  | none => rw [hi] at h; simp at h
  | some i =>
    rw [hi] at h
    simp only [Option.map_some, Option.some.injEq, Prod.mk.injEq] at h
    exact ⟨i, rfl, h.1, h.2.1, h.2.2⟩
theorem elem22 : ∃ i, Try.prog.info? 22 = some i ∧ i.zero = some (.pointer none) ∧ i.size = 1 ∧ i.bytes = 8 := info_of (by kernel_rfl)
theorem elem9 : ∃ i, Try.prog.info? 9 = some i ∧ i.zero = some (.string ⟨#[]⟩) ∧ i.size = 1 ∧ i.bytes = 16 := info_of (by kernel_rfl)

/-- One element appended onto a row that the call owns. -/
theorem wpList_push {P : Program} {w : World} {ops : Array Oper} {rest : List Oper} {o : Oper} {a : Act} {Q : Exit → Act → World → Prop} (hgd : o.guard = none) (s x : Operand) (t e : TypeId) (z : Value) (bytes : Nat)
    (ho : o.op = .call { callee := .builtin .append, args := #[s, x], argTypes := #[t, t] }) (ht : P.underlying t = some (.slice e))
    (hi : ∃ i, P.info? e = some i ∧ i.zero = some z ∧ i.size = 1 ∧ i.bytes = bytes) (hz : z.cells.size = 1)
    (base : Nat) (v : Value) (n : Nat) (xs : List Value) (hs : a.eval s = v) (hown : w.ownsRow base e 1 v n xs)
    (B : Nat) (u : Value) (hx : a.eval x = .slice (some ⟨B, 0, none⟩) 1 1) (hB : w.cell? ⟨B, 0, none⟩ = some u) (hu : u.oneCell' = true)
    (hn : n + 1 ≤ 1048576) (hby : bytes ≤ 64) (hbase : base ≤ w.heap.size)
    (h : ∀ g cap w', w'.ownsRow base e 1 (.slice (some ⟨g, 0, none⟩) (n + 1) cap) (n + 1) (xs ++ [u]) → w.grownBy w' v.ownBlock → (v.ownBlock = some g ∨ g = w.heap.size) → g < w'.heap.size → wpList P ops Q rest (a.put o.dst (.slice (some ⟨g, 0, none⟩) (n + 1) cap)) w') : wpList P ops Q (o :: rest) a w := by
  obtain ⟨i, h1, h2, h3, h4⟩ := hi
  refine wpList_append_lies w hgd s x t ho base e i z 1 bytes ht h1 h2 h3 h4 hz (by omega) v n xs hs hown ⟨B, 0, none⟩ 1 1 [u] hx rfl (fun j y hy => ?_) (fun y hy => ?_) (by omega) ?_ ?_ hbase _ rfl h
  · cases j with
    | zero =>
      simp at hy; subst hy
      exact hB
    | succ j => simp at hy
  · simp at hy; subst hy; exact hu
  · unfold maxLen; omega
  · have : (n + 1) * bytes ≤ 1048576 * 64 := Nat.mul_le_mul hn hby
    omega

/-- What stands at place j of a row that is owned. -/
theorem owns_cell {w : World} {base g n cap : Nat} {e : TypeId} {xs : List Value} (h : w.ownsRow base e 1 (.slice (some ⟨g, 0, none⟩) n cap) n xs) {j : Nat} {u : Value} (hj : xs[j]? = some u) : w.cell? ⟨g, j, none⟩ = some u := by
  obtain ⟨hl, h2⟩ := h
  rcases h2 with ⟨h0, _⟩ | ⟨g', cap', cur, hv, _, hg, _, _, _, ht⟩
  · cases h0
  · cases hv
    rw [cell_of_row w g j cur e (0, 0) hg]
    rw [← ht, List.getElem?_take] at hj
    split at hj
    · simpa using hj
    · cases hj
theorem owns_at {w : World} {base n : Nat} {e : TypeId} {v : Value} {xs : List Value} (h : w.ownsRow base e 1 v n xs) (hn : 0 < n) : ∃ g cap, v = .slice (some ⟨g, 0, none⟩) n cap ∧ base ≤ g ∧ n ≤ cap ∧ cap ≤ maxLen ∧ g < w.heap.size := by
  obtain ⟨g, cap, hv, hb, hlt⟩ := h.form hn
  rcases h.2 with ⟨_, h0⟩ | ⟨g', cap', cur, hv', _, _, hc, hm, _⟩
  · omega
  · rw [hv] at hv'
    cases hv'
    exact ⟨g, cap, hv, hb, hc, hm, hlt⟩
/-- A row that is owned stays owned where its block is as it was. -/
theorem owns_keep {w w' : World} {base n : Nat} {e : TypeId} {v : Value} {xs : List Value} (h : w.ownsRow base e 1 v n xs) (hk : ∀ g, v.ownBlock = some g → w'.heap[g]? = w.heap[g]?) : w'.ownsRow base e 1 v n xs := by
  obtain ⟨hl, h2⟩ := h
  refine ⟨hl, ?_⟩
  rcases h2 with h2 | ⟨g, cap, cur, hv, hb, hg, r⟩
  · exact Or.inl h2
  · exact Or.inr ⟨g, cap, cur, hv, hb, by rw [hk g (by rw [hv]; rfl)]; exact hg, r⟩
end Go.Proofs.Qxb6623478a
