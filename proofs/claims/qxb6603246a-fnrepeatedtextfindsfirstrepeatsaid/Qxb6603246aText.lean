/-
  SEAT b6603246a: Node.IsMerge (30), Resolve (31), textKeyOf (26).
-/
import Derived.Test.Qxb6603246aNode
namespace Go.Proofs.Qxb6603246a
open Go.RowKit

set_option maxHeartbeats 1000000 in
theorem nodeMerge_any (lo p : Nat) (k : Key) (w : World) (h : NodeAt w lo p k) :
    Calls Try.prog 30 #[ptr p] w fun e w' => e = .returned (.bool (isMerge k)) ∧ w' = w := by
  obtain ⟨_, n0, n2, n3, _⟩ := h
  go_enter Try.func30, Try.ntmps30
  go_wp2
  all_goals
    go_ret
    exact ⟨ret_bool (by simp [isMerge, *]), rfl⟩

set_option maxHeartbeats 1000000 in
theorem resolve_any (lo p : Nat) (k : Key) (w : World) (h : NodeAt w lo p k) :
    Calls Try.prog 31 #[ptr p] w fun e w' => ∃ r, e = .returned (ptr r) ∧ w.cell? ⟨r, 3, none⟩ = some (.string (resolved k)) ∧ w' = w := by
  obtain ⟨_, n0, n2, n3, n5⟩ := h
  rcases n5 with ⟨ha, n5⟩ | ⟨ha, q, _, n5, n6⟩
  · have HR : Hid (resolved k = k.text) := by show _ = _; simp [resolved, ha]
    have H3 := hide n3
    clear ha n3
    go_enter Try.func31, Try.ntmps31
    go_wp2
    all_goals
      go_ret
      exact ⟨p, rfl, by rw [HR.out]; exact H3.out, rfl⟩
  · cases hk : (k.kind.toList == [97, 108, 105, 97, 115])
    · have HR : Hid (resolved k = k.text) := by show _ = _; simp only [resolved, hk, Bool.false_and]; rfl
      have H3 := hide n3
      clear ha n3
      go_enter Try.func31, Try.ntmps31
      go_wp2
      all_goals
        go_ret
        exact ⟨p, rfl, by rw [HR.out]; exact H3.out, rfl⟩
    · have HR : Hid (resolved k = k.atext) := by show _ = _; simp only [resolved, hk, ha, Bool.true_and]; rfl
      have H3 := hide n6
      clear ha n6
      go_enter Try.func31, Try.ntmps31
      go_wp2
      all_goals
        go_ret
        exact ⟨q, rfl, by rw [HR.out]; exact H3.out, rfl⟩

abbrev keyVal (k : Key) : Value := .agg #[.bool (isMerge k), .string (resolved k)]
abbrev keyObj (k : Key) : Obj := .cells #[.bool (isMerge k), .string (resolved k)] 56

set_option maxHeartbeats 1000000 in
theorem textKey_any (lo p : Nat) (k : Key) (w : World) (h : NodeAt w lo p k) :
    Calls Try.prog 26 #[ptr p] w fun e w' => e = .returned (keyVal k) ∧ w.alloc (keyObj k) = w' := by
  have H1 : NodeAt (w.alloc (.cells #[.bool false, .string ⟨#[]⟩] 56)) lo p k := h.later ((Below.refl _ _).alloc (Nat.le_refl _) _)
  have C1 := hide (nodeMerge_any lo p k _ H1)
  have C2 := hide (resolve_any lo p k _ H1)
  clear H1 h
  go_enter Try.func26, Try.ntmps26
  go_wp2_with fail
  refine C1.out.mono ?_
  rintro e w1 ⟨rfl, rfl⟩
  go_wp2_with fail
  refine C2.out.mono ?_
  rintro e w1 ⟨r, rfl, hr, rfl⟩
  go_wp2_with fail
  exact bodyPost_ret (v := keyVal k) (by simp [results, Try.results26, go_sem]) rfl ⟨rfl, rfl⟩

end Go.Proofs.Qxb6603246a
