import Derived.Test.Qxb6623478aToKV
import Derived.Deep.LoopGhost
namespace Go.Proofs.Qxb6623478a
open Go.RowKit Go.Deep
set_option linter.unusedSimpArgs false
set_option linter.unusedVariables false

/-- What get hands back: the value and true, or the empty string and false. -/
def Got (r : Option ByteArray) (e : Ending) : Prop := ∃ (v : ByteArray) (b : Bool), e = .returned (.tuple #[.string v, .bool b]) ∧ (b = true → r = some v) ∧ (b = false → r = none ∧ v = ⟨#[]⟩)

set_option maxRecDepth 100000 in
set_option maxHeartbeats 1000000 in
theorem get_any (U : Tr) (x : Option Addr) (key : ByteArray) (w : World) (hx : U.ptr = .pointer x) (hU : Lies w U) :
    Calls Try.prog 8 #[.agg #[.pointer x], .string key] w fun e w' => Got (look key U) e ∧ Below w.heap.size w w' := by
  have hb : Below w.heap.size w (w.alloc (.cells #[.pointer x] 36)) := (Below.refl _ _).alloc (Nat.le_refl _) _
  have HB := hidden hb
  have HL : Hid (Lies (w.alloc (.cells #[.pointer x] 36)) U) := lies_below hb hU
  have HX := hidden hx
  clear hU hx hb
  go_enter Try.func8, Try.ntmps8
  go_wp2
  go_loopg [6] (sz U) (fun k p wr => ∃ t : Tr, sz t = k ∧ p = t.ptr ∧ Lies (w.alloc (.cells #[.pointer x] 36)) t ∧ look key t = look key U ∧ wr = w.alloc (.cells #[.pointer x] 36))
  case atStart => exact ⟨U, rfl, HX.out.symm, HL.out, rfl, rfl⟩
  case round =>
    obtain ⟨t, hk, rfl, hL, hlook, rfl⟩ := hrel
    have HK := hidden hk
    have HLk := hidden hlook
    clear hk hlook
    cases t with
    | nil =>
      have HN : Hid (look key U = none) := by show _ = _; rw [← HLk.out]; rfl
      have e0 : (BT.nil : Tr).ptr = .pointer none := rfl
      rw [e0]
      go_wp2
      go_ret2
      exact ⟨⟨_, _, rfl, (fun h => by cases h), fun _ => ⟨HN.out, rfl⟩⟩, HB.out⟩
    | node b o a l r =>
      have e0 : (BT.node b o a l r : Tr).ptr = .pointer (some ⟨b, o, none⟩) := rfl
      rw [e0]
      clear e0
      obtain ⟨c0, c1, c2, c3, c4, hl, hr⟩ := hL
      by_cases h1 : (key.toList == a.1.toList) = true
      · have HV : Hid (look key U = some a.2.1) := by
          show _ = _
          rw [← HLk.out]
          simp only [look, keq, h1, if_true]
        have h1' : (!(key.toList == a.1.toList)) = false := by rw [h1]; rfl
        go_wp2
        go_ret2
        exact ⟨⟨_, _, rfl, (fun _ => HV.out), (fun h => by cases h)⟩, HB.out⟩
      · have h1f : (key.toList == a.1.toList) = false := by simpa using h1
        clear h1
        by_cases h2 : Op.bytesLess key.toList a.1.toList = true
        · have HV : Hid (look key l = look key U) := by
            show _ = _
            rw [← HLk.out]
            simp only [look, keq, klt, h1f, h2, if_true, Bool.false_eq_true, if_false]
          go_wp2
          go_roundg (sz l)
          case measure => have := HK.out; simp only [sz] at this; omega
          case rel => exact ⟨l, rfl, rfl, hl, HV.out, rfl⟩
        · have h2f : Op.bytesLess key.toList a.1.toList = false := by simpa using h2
          clear h2
          have HV : Hid (look key r = look key U) := by
            show _ = _
            rw [← HLk.out]
            simp only [look, keq, klt, h1f, h2f, Bool.false_eq_true, if_false]
          go_wp2
          go_roundg (sz r)
          case measure => have := HK.out; simp only [sz] at this; omega
          case rel => exact ⟨r, rfl, rfl, hr, HV.out, rfl⟩

set_option maxRecDepth 100000 in
set_option maxHeartbeats 1000000 in
theorem zzget_any (U : Tr) (x : Option Addr) (key : ByteArray) (w : World) (hx : U.ptr = .pointer x) (hU : Lies w U) :
    Calls Try.prog 6 #[.pointer x, .string key] w fun e w' => Got (look key U) e ∧ Below w.heap.size w w' := by
  have HG := hidden (get_any U x key w hx hU)
  clear hx hU
  go_enter Try.func6, Try.ntmps6
  go_wp2_with fail
  refine HG.out.mono ?_
  rintro e w1 ⟨⟨v, b, rfl, h⟩, hb⟩
  have HH := hidden h
  clear h
  go_wp2
  go_ret2
  exact ⟨⟨v, b, rfl, HH.out⟩, hb⟩
end Go.Proofs.Qxb6623478a
