/-
  SEAT b6603246a: THE ORDER OF THE KEYS AND THE SORT, plainly.
-/
import Derived.Test.Qxb6603246aLess
namespace Go.Proofs.Qxb6603246a

theorem bl_irrefl : ∀ x : List UInt8, Op.bytesLess x x = false
  | [] => rfl
  | a :: x => by simp [Op.bytesLess, bl_irrefl x]
theorem bl_trans : ∀ x y z : List UInt8, Op.bytesLess x y = true → Op.bytesLess y z = true → Op.bytesLess x z = true
  | _, [], _, h, _ => by simp [Op.bytesLess] at h
  | _, _ :: _, [], _, h => by simp [Op.bytesLess] at h
  | [], _ :: _, _ :: _, _, _ => by simp [Op.bytesLess]
  | a :: x, b :: y, c :: z, h1, h2 => by
    simp only [Op.bytesLess, Bool.or_eq_true, decide_eq_true_eq, Bool.and_eq_true, beq_iff_eq] at h1 h2 ⊢
    rcases h1 with h1 | ⟨rfl, h1⟩
    · rcases h2 with h2 | ⟨rfl, h2⟩
      · exact .inl (UInt8.lt_trans h1 h2)
      · exact .inl h1
    · rcases h2 with h2 | ⟨rfl, h2⟩
      · exact .inl h2
      · exact .inr ⟨rfl, bl_trans x y z h1 h2⟩
theorem bl_total : ∀ x y : List UInt8, x ≠ y → Op.bytesLess x y = false → Op.bytesLess y x = true
  | [], [], h, _ => absurd rfl h
  | [], _ :: _, _, h => by simp [Op.bytesLess] at h
  | _ :: _, [], _, _ => by simp [Op.bytesLess]
  | a :: x, b :: y, h, h1 => by
    simp only [Op.bytesLess, Bool.or_eq_false_iff, decide_eq_false_iff_not, Bool.and_eq_false_iff, beq_eq_false_iff_ne] at h1
    simp only [Op.bytesLess, Bool.or_eq_true, decide_eq_true_eq, Bool.and_eq_true, beq_iff_eq]
    by_cases e : a = b
    · subst e
      have hxy : x ≠ y := fun e => h (by rw [e])
      refine .inr ⟨rfl, bl_total x y hxy ?_⟩
      rcases h1.2 with h2 | h2
      · exact absurd rfl h2
      · exact h2
    · left
      have h2 := h1.1
      rw [UInt8.lt_iff_toNat_lt] at h2 ⊢
      have h3 : a.toNat ≠ b.toNat := fun e2 => e (UInt8.toNat_inj.1 e2)
      omega

/-- place x stands ahead of place y -/
def Lt (K : Nat → Key) (x y : Nat) : Prop := lessB (K x) (K y) x y = true

theorem lt_iff (K : Nat → Key) (x y : Nat) : Lt K x y ↔ (isMerge (K x) = false ∧ isMerge (K y) = true) ∨ (isMerge (K x) = isMerge (K y) ∧ (((resolved (K x)).toList = (resolved (K y)).toList ∧ x < y) ∨ Op.bytesLess (resolved (K x)).toList (resolved (K y)).toList = true)) := by
  unfold Lt lessB
  have hirr : (resolved (K x)).toList = (resolved (K y)).toList → Op.bytesLess (resolved (K x)).toList (resolved (K y)).toList = false := fun e => by rw [e]; exact bl_irrefl _
  cases hx : isMerge (K x) <;> cases hy : isMerge (K y)
  all_goals
    by_cases ht : (resolved (K x)).toList = (resolved (K y)).toList
    · simp [ht, bl_irrefl]
    · simp [ht]

theorem Lt.trans {K : Nat → Key} {x y z : Nat} (h1 : Lt K x y) (h2 : Lt K y z) : Lt K x z := by
  rw [lt_iff] at h1 h2 ⊢
  rcases h1 with ⟨a, b⟩ | ⟨a, b⟩
  · rcases h2 with ⟨c, d⟩ | ⟨c, d⟩
    · rw [b] at c; cases c
    · exact .inl ⟨a, by rw [← c]; exact b⟩
  · rcases h2 with ⟨c, d⟩ | ⟨c, d⟩
    · exact .inl ⟨by rw [a]; exact c, d⟩
    · refine .inr ⟨a.trans c, ?_⟩
      rcases b with ⟨b1, b2⟩ | b
      · rcases d with ⟨d1, d2⟩ | d
        · exact .inl ⟨b1.trans d1, by omega⟩
        · exact .inr (by rw [b1]; exact d)
      · rcases d with ⟨d1, d2⟩ | d
        · exact .inr (by rw [← d1]; exact b)
        · exact .inr (bl_trans _ _ _ b d)
theorem Lt.total {K : Nat → Key} {x y : Nat} (hne : x ≠ y) (h : ¬ Lt K x y) : Lt K y x := by
  rw [lt_iff] at h ⊢
  by_cases hm : isMerge (K x) = isMerge (K y)
  · refine .inr ⟨hm.symm, ?_⟩
    by_cases ht : (resolved (K x)).toList = (resolved (K y)).toList
    · refine .inl ⟨ht.symm, ?_⟩
      by_cases hl : x < y
      · exact absurd (.inr ⟨hm, .inl ⟨ht, hl⟩⟩) h
      · omega
    · refine .inr (bl_total _ _ ht ?_)
      cases e : Op.bytesLess (resolved (K x)).toList (resolved (K y)).toList
      · rfl
      · exact absurd (.inr ⟨hm, .inr e⟩) h
  · left
    cases hx : isMerge (K x) <;> cases hy : isMerge (K y)
    · rw [hx, hy] at hm; exact absurd rfl hm
    · exact absurd (.inl ⟨hx, hy⟩) h
    · exact ⟨rfl, rfl⟩
    · rw [hx, hy] at hm; exact absurd rfl hm
theorem ids_iff {K : Nat → Key} {x y : Nat} : ids K x = ids K y ↔ isMerge (K x) = isMerge (K y) ∧ (resolved (K x)).toList = (resolved (K y)).toList := by
  simp [ids, idOf]
theorem Lt.place {K : Nat → Key} {x y : Nat} (h : ids K x = ids K y) : Lt K x y ↔ x < y := by
  obtain ⟨h1, h2⟩ := ids_iff.1 h
  rw [lt_iff, h1, h2, bl_irrefl]
  cases isMerge (K y) <;> simp
/-- The like stand together. -/
theorem Lt.group {K : Nat → Key} {x y z : Nat} (h1 : Lt K x y) (h2 : Lt K y z) (h : ids K x = ids K z) : ids K x = ids K y := by
  obtain ⟨e1, e2⟩ := ids_iff.1 h
  rw [lt_iff] at h1 h2
  rw [ids_iff]
  rcases h1 with ⟨a, b⟩ | ⟨a, b⟩
  · rcases h2 with ⟨c, d⟩ | ⟨c, d⟩
    · rw [b] at c; cases c
    · rw [a, ← c, b] at e1; cases e1
  · refine ⟨a, ?_⟩
    rcases b with ⟨b1, b2⟩ | b
    · exact b1
    · rcases h2 with ⟨c, d⟩ | ⟨c, d⟩
      · rw [← a, e1, d] at c; cases c
      · rcases d with ⟨d1, d2⟩ | d
        · exact e2.trans d1.symm
        · have := bl_trans _ _ _ b d
          rw [e2, bl_irrefl] at this; cases this

/-! ### The sort -/
structure Perm (O : Nat → Nat) (n : Nat) : Prop where
  lt : ∀ a, a < n → O a < n
  inj : ∀ a b, a < n → b < n → O a = O b → a = b
  sur : ∀ x, x < n → ∃ a, a < n ∧ O a = x

def upd (O : Nat → Nat) (j v : Nat) : Nat → Nat := fun a => if a = j then v else O a
/-- The places j and j-1 exchanged. -/
def swp (O : Nat → Nat) (j : Nat) : Nat → Nat := upd (upd O j (O (j - 1))) (j - 1) (O j)

theorem swp_at (O : Nat → Nat) {j : Nat} (hj : 0 < j) : swp O j j = O (j - 1) := by
  show (if j = j - 1 then O j else if j = j then O (j - 1) else O j) = _
  rw [if_neg (by omega), if_pos rfl]
theorem swp_pred (O : Nat → Nat) {j : Nat} : swp O j (j - 1) = O j := by
  show (if j - 1 = j - 1 then O j else _) = _
  rw [if_pos rfl]
theorem swp_other (O : Nat → Nat) {j a : Nat} (h1 : a ≠ j) (h2 : a ≠ j - 1) : swp O j a = O a := by
  simp only [swp, upd]; rw [if_neg h2, if_neg h1]

theorem Perm.swap {O : Nat → Nat} {n j : Nat} (h : Perm O n) (hj : 0 < j) (hn : j < n) : Perm (swp O j) n := by
  have key : ∀ a, a < n → ∃ b, b < n ∧ swp O j a = O b ∧ (a = j → b = j - 1) ∧ (a = j - 1 → b = j) ∧ (a ≠ j → a ≠ j - 1 → b = a) := by
    intro a ha
    by_cases h1 : a = j
    · subst h1; exact ⟨a - 1, by omega, swp_at O hj, fun _ => rfl, fun e => by omega, fun e => absurd rfl e⟩
    · by_cases h2 : a = j - 1
      · subst h2; exact ⟨j, hn, swp_pred O, fun e => by omega, fun _ => rfl, fun _ e => absurd rfl e⟩
      · exact ⟨a, ha, swp_other O h1 h2, fun e => absurd e h1, fun e => absurd e h2, fun _ _ => rfl⟩
  refine ⟨fun a ha => ?_, fun a b ha hb e => ?_, fun x hx => ?_⟩
  · obtain ⟨b, hb, e, _⟩ := key a ha
    rw [e]; exact h.lt b hb
  · obtain ⟨a', ha', ea, p1, p2, p3⟩ := key a ha
    obtain ⟨b', hb', eb, q1, q2, q3⟩ := key b hb
    rw [ea, eb] at e
    have := h.inj a' b' ha' hb' e
    omega
  · obtain ⟨a, ha, e⟩ := h.sur x hx
    by_cases h1 : a = j
    · subst h1; exact ⟨a - 1, by omega, by rw [swp_pred]; exact e⟩
    · by_cases h2 : a = j - 1
      · subst h2; exact ⟨j, hn, by rw [swp_at O hj]; exact e⟩
      · exact ⟨a, ha, by rw [swp_other O h1 h2]; exact e⟩
theorem perm_id {O : Nat → Nat} {n : Nat} (h : ∀ a, a < n → O a = a) : Perm O n :=
  ⟨fun a ha => by rw [h a ha]; exact ha, fun a b ha hb e => by rw [h a ha, h b hb] at e; exact e, fun x hx => ⟨x, hx, h x hx⟩⟩

def Sorted (K : Nat → Key) (O : Nat → Nat) (i : Nat) : Prop := ∀ a b, a < b → b < i → Lt K (O a) (O b)
def Hole (K : Nat → Key) (O : Nat → Nat) (i j : Nat) : Prop := (∀ a b, a < b → b ≤ i → a ≠ j → b ≠ j → Lt K (O a) (O b)) ∧ ∀ b, j < b → b ≤ i → Lt K (O j) (O b)

theorem Sorted.hole {K : Nat → Key} {O : Nat → Nat} {i : Nat} (h : Sorted K O i) : Hole K O i i :=
  ⟨fun a b hab hb _ hne => h a b hab (by omega), fun b h1 h2 => by omega⟩
theorem Hole.step {K : Nat → Key} {O : Nat → Nat} {i j : Nat} (h : Hole K O i j) (hj : 0 < j) (hji : j ≤ i) (hl : Lt K (O j) (O (j - 1))) : Hole K (swp O j) i (j - 1) := by
  refine ⟨fun a b hab hb ha hbn => ?_, fun b hb hbi => ?_⟩
  · by_cases h1 : a = j
    · subst h1
      rw [swp_at O hj, swp_other O (by omega) hbn]
      exact h.1 _ _ (by omega) hb (by omega) (by omega)
    · by_cases h2 : b = j
      · subst h2
        rw [swp_at O hj, swp_other O h1 ha]
        exact h.1 _ _ (by omega) (by omega) h1 (by omega)
      · rw [swp_other O h1 ha, swp_other O h2 hbn]
        exact h.1 _ _ hab hb h1 h2
  · rw [swp_pred]
    by_cases h2 : b = j
    · subst h2; rw [swp_at O hj]; exact hl
    · rw [swp_other O h2 (by omega)]; exact h.2 b (by omega) hbi
theorem Hole.done {K : Nat → Key} {O : Nat → Nat} {i j n : Nat} (h : Hole K O i j) (hp : Perm O n) (hi : i < n) (hji : j ≤ i) (hl : 0 < j → ¬ Lt K (O j) (O (j - 1))) : Sorted K O (i + 1) := by
  intro a b hab hb
  by_cases h1 : a = j
  · subst h1; exact h.2 b hab (by omega)
  · by_cases h2 : b = j
    · subst h2
      have hlt : Lt K (O (b - 1)) (O b) := Lt.total (fun e => by have := hp.inj _ _ (by omega) (by omega) e; omega) (hl (by omega))
      by_cases h3 : a = b - 1
      · rw [h3]; exact hlt
      · exact (h.1 a (b - 1) (by omega) (by omega) h1 (by omega)).trans hlt
    · exact h.1 a b hab (by omega) h1 h2

/-! ### The scan -/
/-- s begins a group. -/
def Starts (K : Nat → Key) (O : Nat → Nat) (s : Nat) : Prop := ∀ a, a < s → ids K (O a) ≠ ids K (O s)
/-- What has been found among the places before s. -/
def Best (K : Nat → Key) (O : Nat → Nat) (n s : Nat) (bf bs : Int) : Prop :=
  (bs = -1 ∧ bf = -1 ∧ ∀ a b, a < b → b < s → ids K (O a) ≠ ids K (O b)) ∨
  ∃ f q : Nat, bf = f ∧ bs = q ∧ f < q ∧ q < n ∧ ids K f = ids K q ∧ ∀ a b, a < b → b < s → ids K (O a) = ids K (O b) → q ≤ O b

/-- The end of the scan. -/
theorem Best.last {K : Nat → Key} {O : Nat → Nat} {n s : Nat} {bf bs : Int} (h : Best K O n s bf bs) (hp : Perm O n) (hs : Sorted K O n) (hst : s < n → Starts K O s) (hsn : n ≤ s + 1) :
    (bs = -1 ∧ bf = -1 ∧ NoRep (ids K) n) ∨ ∃ f q : Nat, bf = f ∧ bs = q ∧ IsRep (ids K) n f q := by
  have pos : ∀ i j, i < j → j < n → ids K i = ids K j → ∃ a b, a < b ∧ b < n ∧ O a = i ∧ O b = j := by
    intro i j hij hj he
    obtain ⟨a, ha, ea⟩ := hp.sur i (by omega)
    obtain ⟨b, hb, eb⟩ := hp.sur j hj
    refine ⟨a, b, ?_, hb, ea, eb⟩
    rcases Nat.lt_trichotomy a b with h | h | h
    · exact h
    · subst h; omega
    · have := hs b a h ha
      rw [ea, eb, Lt.place he.symm] at this
      omega
  have inS : ∀ a b, a < b → b < n → ids K (O a) = ids K (O b) → b < s := by
    intro a b hab hb he
    by_cases h : b < s
    · exact h
    · have : b = s := by omega
      subst this
      exact absurd he (hst hb a hab)
  rcases h with ⟨h1, h2, h3⟩ | ⟨f, q, h1, h2, h3, h4, h5, h6⟩
  · refine .inl ⟨h1, h2, fun i j hij hj he => ?_⟩
    obtain ⟨a, b, hab, hb, rfl, rfl⟩ := pos i j hij hj he
    exact h3 a b hab (inS a b hab hb he) he
  · refine .inr ⟨f, q, h1, h2, h3, h4, h5, fun i j hij hj he => ?_⟩
    obtain ⟨a, b, hab, hb, rfl, rfl⟩ := pos i j hij (by omega) he
    have := h6 a b hab (inS a b hab hb he) he
    omega

/-- The group from s to e. -/
def Group (K : Nat → Key) (O : Nat → Nat) (s e : Nat) : Prop := ∀ a, s ≤ a → a < e → ids K (O s) = ids K (O a)

theorem starts_next {K : Nat → Key} {O : Nat → Nat} {n s e : Nat} (hs : Sorted K O n) (hg : Group K O s e) (hse : s < e) (he : e < n) (hst : Starts K O s) (hne : ids K (O s) ≠ ids K (O e)) : Starts K O e := by
  intro a ha heq
  by_cases h : a < s
  · exact hst a h (Lt.group (hs a s h (by omega)) (hs s e hse he) heq)
  · exact hne ((hg a (by omega) ha).trans heq)

theorem Group.first (K : Nat → Key) (O : Nat → Nat) (s : Nat) : Group K O s (s + 1) := fun a h1 h2 => by
  have : a = s := by omega
  rw [this]
theorem Group.next {K : Nat → Key} {O : Nat → Nat} {s e : Nat} (h : Group K O s e) (he : ids K (O s) = ids K (O e)) : Group K O s (e + 1) := fun a h1 h2 => by
  by_cases h3 : a = e
  · rw [h3]; exact he
  · exact h a h1 (by omega)

/-- Inside a group the places go up. -/
theorem Group.up {K : Nat → Key} {O : Nat → Nat} {n s e a b : Nat} (h : Group K O s e) (hs : Sorted K O n) (he : e ≤ n) (h1 : s ≤ a) (h2 : a < b) (h3 : b < e) : O a < O b := by
  have := hs a b h2 (by omega)
  rwa [Lt.place ((h a h1 (by omega)).symm.trans (h b (by omega) h3))] at this
theorem Group.second {K : Nat → Key} {O : Nat → Nat} {n s e b : Nat} (h : Group K O s e) (hs : Sorted K O n) (he : e ≤ n) (h1 : s < b) (h3 : b < e) : O (s + 1) ≤ O b := by
  by_cases e1 : b = s + 1
  · rw [e1]; exact Nat.le_refl _
  · exact Nat.le_of_lt (h.up hs he (by omega) (by omega) h3)
/-- A pair of like ones that ends inside the group begins inside it. -/
theorem Starts.inside {K : Nat → Key} {O : Nat → Nat} {s e a b : Nat} (hst : Starts K O s) (h : Group K O s e) (hb : s ≤ b) (hbe : b < e) (he : ids K (O a) = ids K (O b)) : s ≤ a := by
  by_cases h1 : a < s
  · exact absurd (he.trans (h b hb hbe).symm) (hst a h1)
  · omega

theorem Best.one {K : Nat → Key} {O : Nat → Nat} {n s : Nat} {bf bs : Int} (h : Best K O n s bf bs) (hst : Starts K O s) : Best K O n (s + 1) bf bs := by
  have key : ∀ a b, a < b → b < s + 1 → ids K (O a) = ids K (O b) → b < s := by
    intro a b hab hb he
    by_cases h1 : b < s
    · exact h1
    · have : b = s := by omega
      subst this
      exact absurd he (hst a hab)
  rcases h with ⟨h1, h2, h3⟩ | ⟨f, q, h1, h2, h3, h4, h5, h6⟩
  · exact .inl ⟨h1, h2, fun a b hab hb he => h3 a b hab (key a b hab hb he) he⟩
  · exact .inr ⟨f, q, h1, h2, h3, h4, h5, fun a b hab hb he => h6 a b hab (key a b hab hb he) he⟩

theorem Best.take {K : Nat → Key} {O : Nat → Nat} {n s e : Nat} {bf bs : Int} (h : Best K O n s bf bs) (hp : Perm O n) (hs : Sorted K O n) (hst : Starts K O s) (hg : Group K O s e) (he2 : s + 2 ≤ e) (he : e ≤ n) (hc : bs < 0 ∨ (O (s + 1) : Int) < bs) :
    Best K O n e (O s) (O (s + 1)) := by
  refine .inr ⟨O s, O (s + 1), rfl, rfl, hg.up hs he (Nat.le_refl _) (by omega) (by omega), hp.lt _ (by omega), hg (s + 1) (by omega) (by omega), fun a b hab hb heq => ?_⟩
  by_cases h1 : b < s
  · rcases h with ⟨k1, k2, k3⟩ | ⟨f, q, k1, k2, k3, k4, k5, k6⟩
    · exact absurd heq (k3 a b hab h1)
    · have := k6 a b hab h1 heq
      omega
  · have := hst.inside hg (by omega) hb heq
    exact hg.second hs he (by omega) hb
theorem Best.keep {K : Nat → Key} {O : Nat → Nat} {n s e : Nat} {bf bs : Int} (h : Best K O n s bf bs) (hs : Sorted K O n) (hst : Starts K O s) (hg : Group K O s e) (he : e ≤ n) (hc1 : 0 ≤ bs) (hc2 : bs ≤ (O (s + 1) : Int)) :
    Best K O n e bf bs := by
  rcases h with ⟨k1, k2, k3⟩ | ⟨f, q, k1, k2, k3, k4, k5, k6⟩
  · omega
  · refine .inr ⟨f, q, k1, k2, k3, k4, k5, fun a b hab hb heq => ?_⟩
    by_cases h1 : b < s
    · exact k6 a b hab h1 heq
    · have h2 := hst.inside hg (by omega) hb heq
      have := hg.second hs he (by omega) hb
      omega
theorem best_start (K : Nat → Key) (O : Nat → Nat) (n : Nat) : Best K O n 0 (-1) (-1) := .inl ⟨rfl, rfl, fun a b _ h => by omega⟩
theorem starts_zero (K : Nat → Key) (O : Nat → Nat) : Starts K O 0 := fun a h => by omega

end Go.Proofs.Qxb6603246a
