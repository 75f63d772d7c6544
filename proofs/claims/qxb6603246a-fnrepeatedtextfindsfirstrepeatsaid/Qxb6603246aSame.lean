/-
  SEAT b6603246a: ydSameKeyB1 (23).
-/
import Derived.Test.Qxb6603246aLess
namespace Go.Proofs.Qxb6603246a
open Go.RowKit

/-- What is held while ydSameKeyB1's test goes: its two boxes. -/
abbrev Boxes (w W : World) (k l : Key) : Prop := Below w.heap.size w W ∧
  (W.cell? ⟨w.heap.size, 0, none⟩ = some (.string k.kind) ∧ W.cell? ⟨w.heap.size, 1, none⟩ = some (.string k.tag) ∧ W.cell? ⟨w.heap.size, 2, none⟩ = some (.string k.text) ∧ W.cell? ⟨w.heap.size, 3, none⟩ = some (.bool k.al) ∧ W.cell? ⟨w.heap.size, 4, none⟩ = some (.string k.akind) ∧ W.cell? ⟨w.heap.size, 5, none⟩ = some (.string k.atag) ∧ W.cell? ⟨w.heap.size, 6, none⟩ = some (.string k.atext)) ∧
  (W.cell? ⟨w.heap.size + 1, 0, none⟩ = some (.string l.kind) ∧ W.cell? ⟨w.heap.size + 1, 1, none⟩ = some (.string l.tag) ∧ W.cell? ⟨w.heap.size + 1, 2, none⟩ = some (.string l.text) ∧ W.cell? ⟨w.heap.size + 1, 3, none⟩ = some (.bool l.al) ∧ W.cell? ⟨w.heap.size + 1, 4, none⟩ = some (.string l.akind) ∧ W.cell? ⟨w.heap.size + 1, 5, none⟩ = some (.string l.atag) ∧ W.cell? ⟨w.heap.size + 1, 6, none⟩ = some (.string l.atext))

theorem Boxes.later {w W W' : World} {k l : Key} (h : Boxes w W k l) (hb : Below W.heap.size W W') : Boxes w W' k l := by
  obtain ⟨h1, ⟨a0, a1, a2, a3, a4, a5, a6⟩, ⟨b0, b1, b2, b3, b4, b5, b6⟩⟩ := h
  exact ⟨h1.trans (hb.mono h1.size), ⟨cell_later hb a0, cell_later hb a1, cell_later hb a2, cell_later hb a3, cell_later hb a4, cell_later hb a5, cell_later hb a6⟩, ⟨cell_later hb b0, cell_later hb b1, cell_later hb b2, cell_later hb b3, cell_later hb b4, cell_later hb b5, cell_later hb b6⟩⟩
theorem Boxes.first (w : World) (k l : Key) : Boxes w ((w.alloc k.obj).alloc l.obj).drew k l := by
  refine ⟨(((Below.refl _ _).alloc (Nat.le_refl _) _).alloc (by simp) _).drew, ?_, ?_⟩ <;> simp [go_sem]

set_option maxRecDepth 100000 in
set_option maxHeartbeats 4000000 in
theorem same_any (k l : Key) (w : World) :
    Calls Try.prog 23 #[k.val, l.val] w fun e w' => e = .returned (.bool (sameB k l)) ∧ Below w.heap.size w w' := by
  have B0 := Boxes.first w k l
  have H0 := hide B0
  clear B0
  cases hm : (isMerge k == isMerge l)
  · go_enter Try.func23, Try.ntmps23
    go_wp2
    go_region_with (first
      | (go_at_call 27; refine (isMerge_any _ _).mono ?_; rintro e w' ⟨rfl, rfl⟩)
      | (go_at_call 28; refine (resolved_any _ _).mono ?_; rintro e w' ⟨rfl, rfl⟩))
    all_goals
      go_wp2
      go_ret
      refine ⟨ret_bool (by simp [sameB, hm]), ?_⟩
      repeat (first | exact Below.refl _ _ | apply Below.drew | (refine Below.alloc ?_ (by first | exact Nat.le_refl _ | (simp; done) | (simp; omega)) _))
  · go_enter Try.func23, Try.ntmps23
    go_wp2
    go_region_held3 (fun W => Boxes w W k l) (first | exact H0.out | (refine Boxes.later (by assumption) ?_; first | assumption | exact (Below.refl _ _).alloc (Nat.le_refl _) _))
      (first
      | (go_at_call 27; refine (isMerge_any _ _).mono ?_; rintro e w' ⟨rfl, rfl⟩)
      | (go_at_call 28; refine (resolved_any _ _).mono ?_; rintro e w' ⟨rfl, rfl⟩))
    all_goals
      go_wp2
      go_ret
      refine ⟨ret_bool (by simp [sameB, hm]), ?_⟩
      repeat (first | exact Below.refl _ _ | apply Below.drew | (refine Below.alloc ?_ (by first | exact Nat.le_refl _ | (simp; done) | (simp; omega)) _))

end Go.Proofs.Qxb6603246a
