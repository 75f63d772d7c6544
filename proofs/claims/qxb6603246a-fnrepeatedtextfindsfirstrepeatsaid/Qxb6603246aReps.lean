/-
  SEAT b6603246a: THE FIRST REPEAT, plainly: no Go in sight.
-/
namespace Go.Proofs.Qxb6603246a

/-- No two of the first n are alike. -/
def NoRep {α : Type} (I : Nat → α) (n : Nat) : Prop := ∀ i j, i < j → j < n → I i ≠ I j
/-- s is the first place that repeats an earlier one, f is that earlier one. -/
def IsRep {α : Type} (I : Nat → α) (n f s : Nat) : Prop := f < s ∧ s < n ∧ I f = I s ∧ NoRep I s

theorem NoRep.mono {α : Type} {I : Nat → α} {n m : Nat} (h : NoRep I n) (hm : m ≤ n) : NoRep I m := fun i j hij hj => h i j hij (by omega)
theorem NoRep.succ {α : Type} {I : Nat → α} {n : Nat} (h : NoRep I n) (hn : ∀ c, c < n → I c ≠ I n) : NoRep I (n + 1) := by
  intro i j hij hj
  by_cases e : j = n
  · subst e; exact hn i hij
  · exact h i j hij (by omega)
theorem noRep_one {α : Type} (I : Nat → α) : NoRep I 1 := fun i j _ _ => by omega
theorem noRep_zero {α : Type} (I : Nat → α) : NoRep I 0 := fun i j _ h => by omega

theorem IsRep.same {α : Type} {I : Nat → α} {n f s f' s' : Nat} (h : IsRep I n f s) (h' : IsRep I n f' s') : f = f' ∧ s = s' := by
  obtain ⟨a1, a2, a3, a4⟩ := h
  obtain ⟨b1, b2, b3, b4⟩ := h'
  have hs : s = s' := by
    rcases Nat.lt_trichotomy s s' with h | h | h
    · exact absurd a3 (b4 f s a1 h)
    · exact h
    · exact absurd b3 (a4 f' s' b1 h)
  subst hs
  refine ⟨?_, rfl⟩
  rcases Nat.lt_trichotomy f f' with h | h | h
  · exact absurd (a3.trans b3.symm) (a4 f f' h b1)
  · exact h
  · exact absurd (b3.trans a3.symm) (a4 f' f h a1)
theorem IsRep.not {α : Type} {I : Nat → α} {n f s : Nat} (h : IsRep I n f s) : ¬ NoRep I n := fun k => k f s h.1 h.2.1 h.2.2.1

end Go.Proofs.Qxb6603246a
