import Derived.Test.Qxb6623478aInorder
import Derived.Deep.RegionHeld3
namespace Go.Proofs.Qxb6623478a
open Go.RowKit Go.Deep
set_option linter.unusedSimpArgs false
set_option linter.unusedVariables false

set_option maxHeartbeats 400000 in
theorem make_any (k v : ByteArray) (p : Int) (x y : Option Addr) (w : World) :
    Calls Try.prog 9 #[.string k, .string v, .int .u64 p, .pointer x, .pointer y] w fun e w' => e = .returned (.pointer (some ⟨w.heap.size, 0, none⟩)) ∧ w' = w.alloc (.cells #[.string k, .string v, .int .u64 p, .pointer x, .pointer y] 40) := by
  go_enter Try.func9, Try.ntmps9
  go_wp2
  go_ret
  exact ⟨rfl, rfl⟩

theorem lies_new (w : World) (a : ByteArray × ByteArray × Int) (U V : Tr) (x y : Option Addr) (hx : U.ptr = .pointer x) (hy : V.ptr = .pointer y) (hU : Lies w U) (hV : Lies w V) :
    Lies (w.alloc (.cells #[.string a.1, .string a.2.1, .int .u64 a.2.2, .pointer x, .pointer y] 40)) (.node w.heap.size 0 a U V) := by
  have hb : Below w.heap.size w (w.alloc (.cells #[.string a.1, .string a.2.1, .int .u64 a.2.2, .pointer x, .pointer y] 40)) := (Below.refl _ _).alloc (Nat.le_refl _) _
  have hg := heap_alloc_new w (.cells #[.string a.1, .string a.2.1, .int .u64 a.2.2, .pointer x, .pointer y] 40)
  refine ⟨?_, ?_, ?_, ?_, ?_, lies_below hb hU, lies_below hb hV⟩
  · rw [cell_of_row _ _ _ _ _ _ hg]; rfl
  · rw [cell_of_row _ _ _ _ _ _ hg]; rfl
  · rw [cell_of_row _ _ _ _ _ _ hg]; rfl
  · rw [cell_of_row _ _ _ _ _ _ hg, hx]; rfl
  · rw [cell_of_row _ _ _ _ _ _ hg, hy]; rfl

set_option maxRecDepth 100000 in
set_option maxHeartbeats 4000000 in
theorem tokv_any (w0 : World) : ∀ (T : Tr), Lies w0 T → ∀ (w : World), Below w0.heap.size w0 w →
    Calls Try.prog 7 #[T.ptr] w fun e w' => ∃ (U : Tr) (x : Option Addr), U.ptr = .pointer x ∧ e = .returned (.pointer x) ∧ Alike T U ∧ Lies w' U ∧ Below w.heap.size w w' := by
  intro T
  induction T with
  | nil =>
    intro _ w hb
    show Calls Try.prog 7 #[.pointer none] w _
    go_enter Try.func7, Try.ntmps7
    go_wp2_with fail
    go_ret
    exact ⟨.nil, none, rfl, rfl, trivial, trivial, Below.refl _ _⟩
  | node b o a l r ihl ihr =>
    intro hT w hb
    obtain ⟨c0, c1, c2, c3, c4, _, _⟩ := lies_below hb hT
    have hlt : b < w.heap.size := World.block_lt_of_cell? _ _ c0
    have C0 := hidden c0
    have C1 := hidden c1
    have C2 := hidden c2
    have C3 := hidden c3
    have C4 := hidden c4
    have HIL := hidden (ihl hT.2.2.2.2.2.1)
    have HIR := hidden (ihr hT.2.2.2.2.2.2)
    clear ihl ihr hT c0 c1 c2 c3 c4
    show Calls Try.prog 7 #[.pointer (some ⟨b, o, none⟩)] w _
    go_enter Try.func7, Try.ntmps7
    go_wp2_with fail
    refine wp_region_held_drew (S := Below w.heap.size w) (by kernel_rfl) (Below.refl _ _).drew (fun hHeld => ?_)
    refine wpAnyH_take (i := 0) (v := .pointer (some ⟨b, o, none⟩)) rfl (by kernel_rfl) (by kernel_rfl) (by kernel_rfl) (fun _ _ _ h => h) (Or.inl ⟨by rfl, fun _ _ => by go_simp⟩) hHeld ?_
    try simp only [Act.put, List.getElem_toArray, List.getElem_cons_zero, List.getElem_cons_succ, List.setIfInBounds_toArray, List.set_cons_zero, List.set_cons_succ]
    refine wpAnyH_take (i := 1) (v := .pointer (some ⟨b, o, none⟩)) rfl (by kernel_rfl) (by kernel_rfl) (by kernel_rfl) (fun _ _ _ h => h) (Or.inl ⟨by rfl, fun _ _ => by go_simp⟩) hHeld ?_
    try simp only [Act.put, List.getElem_toArray, List.getElem_cons_zero, List.getElem_cons_succ, List.setIfInBounds_toArray, List.set_cons_zero, List.set_cons_succ]
    refine wpAnyH_take (i := 2) (v := .pointer (some ⟨b, o, none⟩)) rfl (by kernel_rfl) (by kernel_rfl) (by kernel_rfl) (fun _ _ _ h => h) (Or.inl ⟨by rfl, fun _ _ => by go_simp⟩) hHeld ?_
    try simp only [Act.put, List.getElem_toArray, List.getElem_cons_zero, List.getElem_cons_succ, List.setIfInBounds_toArray, List.set_cons_zero, List.set_cons_succ]
    refine wpAnyH_take (i := 3) (v := .string a.1) rfl (by kernel_rfl) (by kernel_rfl) (by kernel_rfl) (fun _ _ _ h => h) (Or.inl ⟨by rfl, fun w' h => by have hcc : w'.cell? ⟨b, o, none⟩ = some (.string a.1) := (by rw [h.cell (p := ⟨b, o, none⟩) hlt]; exact C0.out); go_simp⟩) hHeld ?_
    try simp only [Act.put, List.getElem_toArray, List.getElem_cons_zero, List.getElem_cons_succ, List.setIfInBounds_toArray, List.set_cons_zero, List.set_cons_succ]
    refine wpAnyH_take (i := 4) (v := .pointer (some ⟨b, o, none⟩)) rfl (by kernel_rfl) (by kernel_rfl) (by kernel_rfl) (fun _ _ _ h => h) (Or.inl ⟨by rfl, fun _ _ => by go_simp⟩) hHeld ?_
    try simp only [Act.put, List.getElem_toArray, List.getElem_cons_zero, List.getElem_cons_succ, List.setIfInBounds_toArray, List.set_cons_zero, List.set_cons_succ]
    refine wpAnyH_take (i := 5) (v := .pointer (some ⟨b, o, none⟩)) rfl (by kernel_rfl) (by kernel_rfl) (by kernel_rfl) (fun _ _ _ h => h) (Or.inl ⟨by rfl, fun _ _ => by go_simp⟩) hHeld ?_
    try simp only [Act.put, List.getElem_toArray, List.getElem_cons_zero, List.getElem_cons_succ, List.setIfInBounds_toArray, List.set_cons_zero, List.set_cons_succ]
    refine wpAnyH_take (i := 6) (v := .pointer (some ⟨b, o + 1, none⟩)) rfl (by kernel_rfl) (by kernel_rfl) (by kernel_rfl) (fun _ _ _ h => h) (Or.inl ⟨by rfl, fun _ _ => by go_simp⟩) hHeld ?_
    try simp only [Act.put, List.getElem_toArray, List.getElem_cons_zero, List.getElem_cons_succ, List.setIfInBounds_toArray, List.set_cons_zero, List.set_cons_succ]
    refine wpAnyH_take (i := 7) (v := .string a.2.1) rfl (by kernel_rfl) (by kernel_rfl) (by kernel_rfl) (fun _ _ _ h => h) (Or.inl ⟨by rfl, fun w' h => by have hcc : w'.cell? ⟨b, o + 1, none⟩ = some (.string a.2.1) := (by rw [h.cell (p := ⟨b, o + 1, none⟩) hlt]; exact C1.out); go_simp⟩) hHeld ?_
    try simp only [Act.put, List.getElem_toArray, List.getElem_cons_zero, List.getElem_cons_succ, List.setIfInBounds_toArray, List.set_cons_zero, List.set_cons_succ]
    refine wpAnyH_take (i := 8) (v := .pointer (some ⟨b, o, none⟩)) rfl (by kernel_rfl) (by kernel_rfl) (by kernel_rfl) (fun _ _ _ h => h) (Or.inl ⟨by rfl, fun _ _ => by go_simp⟩) hHeld ?_
    try simp only [Act.put, List.getElem_toArray, List.getElem_cons_zero, List.getElem_cons_succ, List.setIfInBounds_toArray, List.set_cons_zero, List.set_cons_succ]
    refine wpAnyH_take (i := 9) (v := .pointer (some ⟨b, o, none⟩)) rfl (by kernel_rfl) (by kernel_rfl) (by kernel_rfl) (fun _ _ _ h => h) (Or.inl ⟨by rfl, fun _ _ => by go_simp⟩) hHeld ?_
    try simp only [Act.put, List.getElem_toArray, List.getElem_cons_zero, List.getElem_cons_succ, List.setIfInBounds_toArray, List.set_cons_zero, List.set_cons_succ]
    refine wpAnyH_take (i := 10) (v := .pointer (some ⟨b, o + 2, none⟩)) rfl (by kernel_rfl) (by kernel_rfl) (by kernel_rfl) (fun _ _ _ h => h) (Or.inl ⟨by rfl, fun _ _ => by go_simp⟩) hHeld ?_
    try simp only [Act.put, List.getElem_toArray, List.getElem_cons_zero, List.getElem_cons_succ, List.setIfInBounds_toArray, List.set_cons_zero, List.set_cons_succ]
    refine wpAnyH_take (i := 11) (v := .int .u64 a.2.2) rfl (by kernel_rfl) (by kernel_rfl) (by kernel_rfl) (fun _ _ _ h => h) (Or.inl ⟨by rfl, fun w' h => by have hcc : w'.cell? ⟨b, o + 2, none⟩ = some (.int .u64 a.2.2) := (by rw [h.cell (p := ⟨b, o + 2, none⟩) hlt]; exact C2.out); go_simp⟩) hHeld ?_
    try simp only [Act.put, List.getElem_toArray, List.getElem_cons_zero, List.getElem_cons_succ, List.setIfInBounds_toArray, List.set_cons_zero, List.set_cons_succ]
    refine wpAnyH_take (i := 12) (v := .pointer (some ⟨b, o, none⟩)) rfl (by kernel_rfl) (by kernel_rfl) (by kernel_rfl) (fun _ _ _ h => h) (Or.inl ⟨by rfl, fun _ _ => by go_simp⟩) hHeld ?_
    try simp only [Act.put, List.getElem_toArray, List.getElem_cons_zero, List.getElem_cons_succ, List.setIfInBounds_toArray, List.set_cons_zero, List.set_cons_succ]
    refine wpAnyH_take (i := 13) (v := .pointer (some ⟨b, o, none⟩)) rfl (by kernel_rfl) (by kernel_rfl) (by kernel_rfl) (fun _ _ _ h => h) (Or.inl ⟨by rfl, fun _ _ => by go_simp⟩) hHeld ?_
    try simp only [Act.put, List.getElem_toArray, List.getElem_cons_zero, List.getElem_cons_succ, List.setIfInBounds_toArray, List.set_cons_zero, List.set_cons_succ]
    refine wpAnyH_take (i := 14) (v := .pointer (some ⟨b, o + 3, none⟩)) rfl (by kernel_rfl) (by kernel_rfl) (by kernel_rfl) (fun _ _ _ h => h) (Or.inl ⟨by rfl, fun _ _ => by go_simp⟩) hHeld ?_
    try simp only [Act.put, List.getElem_toArray, List.getElem_cons_zero, List.getElem_cons_succ, List.setIfInBounds_toArray, List.set_cons_zero, List.set_cons_succ]
    refine wpAnyH_take (i := 15) (v := l.ptr) rfl (by kernel_rfl) (by kernel_rfl) (by kernel_rfl) (fun _ _ _ h => h) (Or.inl ⟨by rfl, fun w' h => by have hcc : w'.cell? ⟨b, o + 3, none⟩ = some (l.ptr) := (by rw [h.cell (p := ⟨b, o + 3, none⟩) hlt]; exact C3.out); go_simp⟩) hHeld ?_
    try simp only [Act.put, List.getElem_toArray, List.getElem_cons_zero, List.getElem_cons_succ, List.setIfInBounds_toArray, List.set_cons_zero, List.set_cons_succ]
    refine wpAnyH_take (i := 17) (v := .pointer (some ⟨b, o, none⟩)) rfl (by kernel_rfl) (by kernel_rfl) (by kernel_rfl) (fun _ _ _ h => h) (Or.inl ⟨by rfl, fun _ _ => by go_simp⟩) hHeld ?_
    try simp only [Act.put, List.getElem_toArray, List.getElem_cons_zero, List.getElem_cons_succ, List.setIfInBounds_toArray, List.set_cons_zero, List.set_cons_succ]
    refine wpAnyH_take (i := 18) (v := .pointer (some ⟨b, o, none⟩)) rfl (by kernel_rfl) (by kernel_rfl) (by kernel_rfl) (fun _ _ _ h => h) (Or.inl ⟨by rfl, fun _ _ => by go_simp⟩) hHeld ?_
    try simp only [Act.put, List.getElem_toArray, List.getElem_cons_zero, List.getElem_cons_succ, List.setIfInBounds_toArray, List.set_cons_zero, List.set_cons_succ]
    refine wpAnyH_take (i := 19) (v := .pointer (some ⟨b, o + 4, none⟩)) rfl (by kernel_rfl) (by kernel_rfl) (by kernel_rfl) (fun _ _ _ h => h) (Or.inl ⟨by rfl, fun _ _ => by go_simp⟩) hHeld ?_
    try simp only [Act.put, List.getElem_toArray, List.getElem_cons_zero, List.getElem_cons_succ, List.setIfInBounds_toArray, List.set_cons_zero, List.set_cons_succ]
    refine wpAnyH_take (i := 20) (v := r.ptr) rfl (by kernel_rfl) (by kernel_rfl) (by kernel_rfl) (fun _ _ _ h => h) (Or.inl ⟨by rfl, fun w' h => by have hcc : w'.cell? ⟨b, o + 4, none⟩ = some (r.ptr) := (by rw [h.cell (p := ⟨b, o + 4, none⟩) hlt]; exact C4.out); go_simp⟩) hHeld ?_
    try simp only [Act.put, List.getElem_toArray, List.getElem_cons_zero, List.getElem_cons_succ, List.setIfInBounds_toArray, List.set_cons_zero, List.set_cons_succ]
    refine wpAnyH_ready (rs := [16]) (by kernel_rfl) (by simp) ?_
    refine AllReadyH.cons rfl (fun K hK => ?_) AllReadyH.nil
    go_simp
    refine (HIL.out _ (hb.trans (hHeld.mono hb.size))).mono ?_
    rintro e w1 ⟨U, x, hx, rfl, hA, hLU, hc⟩
    have HU := hidden (And.intro hx (And.intro hA hLU))
    refine hK.out _ _ (below_behind hHeld hc) (fun hHeld1 => ?_)
    clear hK K hx hA hLU
    try simp only [Act.put, List.getElem_toArray, List.getElem_cons_zero, List.getElem_cons_succ, List.setIfInBounds_toArray, List.set_cons_zero, List.set_cons_succ]
    refine wpAnyH_ready (rs := [21]) (by kernel_rfl) (by simp) ?_
    refine AllReadyH.cons rfl (fun K hK => ?_) AllReadyH.nil
    go_simp
    refine (HIR.out _ (hb.trans (hHeld1.mono hb.size))).mono ?_
    rintro e w2 ⟨V, y, hy, rfl, hA, hLV, hd⟩
    have HV := hidden (And.intro hy (And.intro hA hLV))
    refine hK.out _ _ (below_behind hHeld1 hd) (fun hHeld2 => ?_)
    clear hK K hy hA hLV
    try simp only [Act.put, List.getElem_toArray, List.getElem_cons_zero, List.getElem_cons_succ, List.setIfInBounds_toArray, List.set_cons_zero, List.set_cons_succ]
    refine wpAnyH_ready (rs := [22]) (by kernel_rfl) (by simp) ?_
    refine AllReadyH.cons rfl (fun K hK => ?_) AllReadyH.nil
    go_simp
    refine (make_any a.1 a.2.1 a.2.2 x y _).mono ?_
    rintro e w3 ⟨rfl, rfl⟩
    refine hK.out _ _ (hHeld2.alloc (by exact hHeld2.size) _) (fun hHeld => ?_)
    clear hK K
    try simp only [Act.put, List.getElem_toArray, List.getElem_cons_zero, List.getElem_cons_succ, List.setIfInBounds_toArray, List.set_cons_zero, List.set_cons_succ]
    refine wpAnyH_take (i := 23) (v := .pointer (some ⟨w2.heap.size, 0, none⟩)) rfl (by kernel_rfl) (by kernel_rfl) (by kernel_rfl) (fun _ _ _ h => h) (Or.inl ⟨by rfl, fun _ _ => by go_simp⟩) hHeld ?_
    try simp only [Act.put, List.getElem_toArray, List.getElem_cons_zero, List.getElem_cons_succ, List.setIfInBounds_toArray, List.set_cons_zero, List.set_cons_succ]
    refine wpAnyH_done (by kernel_rfl) ?_ _
    go_wp2_with fail
    go_ret
    obtain ⟨hx, hA, hLU⟩ := HU.out
    obtain ⟨hy, hB, hLV⟩ := HV.out
    exact ⟨.node w2.heap.size 0 a U V, _, rfl, rfl, ⟨rfl, hA, hB⟩, lies_new w2 a U V x y hx hy (lies_below hd hLU) hLV, hHeld⟩
end Go.Proofs.Qxb6623478a
