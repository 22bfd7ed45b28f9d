import Derived.Deep.Trees
import Derived.Below
namespace Go.Proofs.Qxb6623478a
open Go.Deep

/-- A tree with its nodes' addresses; at each node key, value, priority. -/
abbrev Tr := BT (ByteArray × ByteArray × Int)

def sz : Tr → Nat
  | .nil => 0
  | .node _ _ _ l r => sz l + 1 + sz r
/-- In order: keys and values. -/
def ino : Tr → List (ByteArray × ByteArray)
  | .nil => []
  | .node _ _ a l r => ino l ++ (a.1, a.2.1) :: ino r
def klt (a b : ByteArray) : Bool := Op.bytesLess a.toList b.toList
def keq (a b : ByteArray) : Bool := a.toList == b.toList
/-- The search path. -/
def look (key : ByteArray) : Tr → Option ByteArray
  | .nil => none
  | .node _ _ a l r => if keq key a.1 then some a.2.1 else if klt key a.1 then look key l else look key r
/-- The scan. -/
def scan (key : ByteArray) : List (ByteArray × ByteArray) → Option ByteArray
  | [] => none
  | p :: L => if keq p.1 key then some p.2 else scan key L

theorem ino_len : ∀ T : Tr, (ino T).length = sz T
  | .nil => rfl
  | .node _ _ _ l r => by simp only [ino, sz, List.length_append, List.length_cons, ino_len l, ino_len r]; omega

/-! ### the order -/
theorem less_irrefl : ∀ x : List UInt8, Op.bytesLess x x = false
  | [] => rfl
  | a :: x => by simp [Op.bytesLess, less_irrefl x]
theorem less_trans : ∀ x y z : List UInt8, Op.bytesLess x y = true → Op.bytesLess y z = true → Op.bytesLess x z = true
  | _, [], _, h, _ => by cases ‹List UInt8› <;> simp [Op.bytesLess] at h
  | _, _ :: _, [], _, h => by simp [Op.bytesLess] at h
  | [], _ :: _, _ :: _, _, _ => by simp [Op.bytesLess]
  | a :: x, b :: y, c :: z, h1, h2 => by
    simp only [Op.bytesLess, Bool.or_eq_true, Bool.and_eq_true, beq_iff_eq, decide_eq_true_eq, UInt8.lt_iff_toNat_lt] at h1 h2 ⊢
    rcases h1 with h1 | ⟨rfl, h1⟩
    · rcases h2 with h2 | ⟨rfl, h2⟩
      · left; omega
      · left; omega
    · rcases h2 with h2 | ⟨rfl, h2⟩
      · left; omega
      · right; exact ⟨rfl, less_trans x y z h1 h2⟩
theorem less_total : ∀ x y : List UInt8, Op.bytesLess x y = false → (x == y) = false → Op.bytesLess y x = true
  | [], [], _, h => by simp at h
  | _ :: _, [], _, _ => by simp [Op.bytesLess]
  | [], _ :: _, h, _ => by simp [Op.bytesLess] at h
  | a :: x, b :: y, h1, h2 => by
    simp only [Op.bytesLess, Bool.or_eq_false_iff, decide_eq_false_iff_not, UInt8.lt_iff_toNat_lt] at h1
    simp only [Op.bytesLess, Bool.or_eq_true, Bool.and_eq_true, beq_iff_eq, decide_eq_true_eq, UInt8.lt_iff_toNat_lt]
    by_cases e : a = b
    · subst e
      right
      refine ⟨rfl, less_total x y ?_ ?_⟩
      · simpa using h1.2
      · simpa using h2
    · left
      have : a.toNat ≠ b.toNat := fun h => e (UInt8.toNat_inj.1 h)
      omega

theorem klt_trans {a b c : ByteArray} (h1 : klt a b = true) (h2 : klt b c = true) : klt a c = true := less_trans _ _ _ h1 h2
theorem klt_ne {a b : ByteArray} (h : klt a b = true) : keq a b = false := by
  unfold keq
  cases e : a.toList == b.toList with
  | false => rfl
  | true =>
    have e' : a.toList = b.toList := by simpa using e
    unfold klt at h
    rw [e', less_irrefl] at h
    cases h
theorem klt_ne' {a b : ByteArray} (h : klt a b = true) : keq b a = false := by
  have := klt_ne h
  unfold keq at this ⊢
  simp only [beq_eq_false_iff_ne, ne_eq] at this ⊢
  exact fun e => this e.symm
theorem klt_total {a b : ByteArray} (h : klt a b = false) (hn : keq a b = false) : klt b a = true := less_total _ _ h hn
theorem keq_klt {a b c : ByteArray} (h : keq a b = true) (h2 : klt c b = true) : klt c a = true := by
  unfold keq at h; unfold klt at h2 ⊢
  have e : a.toList = b.toList := by simpa using h
  rw [e]; exact h2
theorem keq_comm (a b : ByteArray) : keq a b = keq b a := by
  unfold keq
  rw [Bool.eq_iff_iff]
  simp only [beq_iff_eq]
  exact ⟨Eq.symm, Eq.symm⟩

/-! ### the law -/
def Rising (L : List (ByteArray × ByteArray)) : Prop := L.Pairwise fun p q => klt p.1 q.1 = true

/-- Neighbour below neighbour: rising. -/
theorem rising_of : ∀ L : List (ByteArray × ByteArray), (∀ i (h : i + 1 < L.length), klt L[i].1 L[i + 1].1 = true) → Rising L
  | [], _ => List.Pairwise.nil
  | [_], _ => by simp [Rising]
  | p :: q :: L, h => by
    have ih := rising_of (q :: L) (fun i hi => h (i + 1) (by simpa using hi))
    have h0 := h 0 (by simp)
    refine List.Pairwise.cons ?_ ih
    intro r hr
    rcases List.mem_cons.1 hr with rfl | hr
    · exact h0
    · exact klt_trans h0 ((List.pairwise_cons.1 ih).1 r hr)

theorem scan_none (key : ByteArray) : ∀ L : List (ByteArray × ByteArray), (∀ p ∈ L, keq p.1 key = false) → scan key L = none
  | [], _ => rfl
  | p :: L, h => by
    simp only [scan, h p (List.mem_cons_self ..), Bool.false_eq_true, if_false]
    exact scan_none key L fun q hq => h q (List.mem_cons_of_mem _ hq)
theorem scan_append (key : ByteArray) : ∀ A B : List (ByteArray × ByteArray), scan key (A ++ B) = (scan key A).or (scan key B)
  | [], B => by simp [scan]
  | p :: A, B => by
    simp only [List.cons_append, scan]
    split
    · rfl
    · exact scan_append key A B

theorem look_scan (key : ByteArray) : ∀ T : Tr, Rising (ino T) → look key T = scan key (ino T)
  | .nil, _ => rfl
  | .node _ _ a l r, h => by
    unfold Rising at h
    simp only [ino] at h
    rw [List.pairwise_append] at h
    obtain ⟨hl, hr, hlr⟩ := h
    rw [List.pairwise_cons] at hr
    obtain ⟨har, hr⟩ := hr
    have hla : ∀ p ∈ ino l, klt p.1 a.1 = true := fun p hp => hlr p hp (a.1, a.2.1) (List.mem_cons_self ..)
    simp only [look, ino, scan_append, scan]
    by_cases e : keq key a.1 = true
    · rw [if_pos e, scan_none key (ino l) (fun p hp => klt_ne (keq_klt e (hla p hp)))]
      rw [keq_comm] at e
      simp [e]
    · rw [if_neg e]
      have e' : keq key a.1 = false := by simpa using e
      have e2 : keq a.1 key = false := by rw [keq_comm]; exact e'
      by_cases g : klt key a.1 = true
      · rw [if_pos g, look_scan key l hl, if_neg (by simp [e2]), scan_none key (ino r) (fun p hp => klt_ne' (klt_trans g (har p hp)))]
        simp
      · rw [if_neg g, look_scan key r hr, if_neg (by simp [e2])]
        have g' : klt a.1 key = true := klt_total (by simpa using g) e'
        rw [scan_none key (ino l) (fun p hp => klt_ne (klt_trans (hla p hp) g'))]
        simp

/-- The same keys and values, whatever the addresses. -/
def Alike : Tr → Tr → Prop
  | .nil, .nil => True
  | .node _ _ a l r, .node _ _ a' l' r' => a = a' ∧ Alike l l' ∧ Alike r r'
  | _, _ => False
theorem look_alike (key : ByteArray) : ∀ T U : Tr, Alike T U → look key U = look key T
  | .nil, .nil, _ => rfl
  | .node _ _ a l r, .node _ _ a' l' r', ⟨ha, hl, hr⟩ => by
    subst ha
    simp only [look, look_alike key l l' hl, look_alike key r r' hr]
  | .nil, .node _ _ _ _ _, h => h.elim
  | .node _ _ _ _ _, .nil, h => h.elim
end Go.Proofs.Qxb6623478a
