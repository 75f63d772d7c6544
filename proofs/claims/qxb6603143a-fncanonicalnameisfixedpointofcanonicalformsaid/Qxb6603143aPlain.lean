/-
  THE PLAIN LAWS OF SEAT b6603143a: no Go in sight. Bytes are integers.
-/
namespace Go.Proofs.Qxb6603143a

/-- What canonicalName reckons over the rest of a name, 'up': is an upper case letter wanted. -/
def canonGo : Bool → List Int → Bool
  | _, [] => true
  | up, c :: cs =>
    if 65 ≤ c ∧ c ≤ 90 then up && canonGo false cs
    else if 97 ≤ c ∧ c ≤ 122 then !up && canonGo false cs
    else if 48 ≤ c ∧ c ≤ 57 then canonGo false cs
    else if c = 45 then canonGo true cs
    else false
def canonB (l : List Int) : Bool := !l.isEmpty && canonGo true l

theorem canonGo_upper {c : Int} {u : Bool} {cs : List Int} (h1 : 65 ≤ c) (h2 : c ≤ 90) : canonGo u (c :: cs) = (u && canonGo false cs) := by
  rw [canonGo, if_pos ⟨h1, h2⟩]
theorem canonGo_lower {c : Int} {u : Bool} {cs : List Int} (h1 : 97 ≤ c) (h2 : c ≤ 122) : canonGo u (c :: cs) = (!u && canonGo false cs) := by
  rw [canonGo, if_neg (by omega), if_pos ⟨h1, h2⟩]
theorem canonGo_digit {c : Int} {u : Bool} {cs : List Int} (h1 : 48 ≤ c) (h2 : c ≤ 57) : canonGo u (c :: cs) = canonGo false cs := by
  rw [canonGo, if_neg (by omega), if_neg (by omega), if_pos ⟨h1, h2⟩]
theorem canonGo_hyphen {u : Bool} {cs : List Int} : canonGo u (45 :: cs) = canonGo true cs := by
  simp [canonGo]
theorem canonGo_other {c : Int} {u : Bool} {cs : List Int} (h1 : ¬ (65 ≤ c ∧ c ≤ 90)) (h2 : ¬ (97 ≤ c ∧ c ≤ 122)) (h3 : ¬ (48 ≤ c ∧ c ≤ 57)) (h4 : ¬ c = 45) : canonGo u (c :: cs) = false := by
  rw [canonGo, if_neg h1, if_neg h2, if_neg h3, if_neg h4]

/-- a ++ "-" ++ b. -/
theorem canonGo_split (a b : List Int) : ∀ u, canonGo u (a ++ 45 :: b) = (canonGo u a && canonGo true b) := by
  induction a with
  | nil => intro u; simp [canonGo]
  | cons c cs ih =>
    intro u
    simp only [List.cons_append, canonGo]
    split
    · rw [ih, Bool.and_assoc]
    · split
      · rw [ih, Bool.and_assoc]
      · split
        · rw [ih]
        · split
          · rw [ih]
          · simp

theorem split_law (a b : List Int) : canonB (a ++ 45 :: b) = ((a.isEmpty || canonB a) && (b.isEmpty || canonB b)) := by
  unfold canonB
  have h : (a ++ 45 :: b).isEmpty = false := by cases a <;> rfl
  rw [h, canonGo_split]
  cases a <;> cases b <;> simp [canonGo]

/-- A letter, a digit or a hyphen. -/
def tokB (c : Int) : Bool := decide (65 ≤ c ∧ c ≤ 90) || decide (97 ≤ c ∧ c ≤ 122) || decide (48 ≤ c ∧ c ≤ 57) || c == 45

/-- One byte of the canonical form. -/
def formC (s : Bool) (c : Int) : Int := if s = true ∧ 97 ≤ c ∧ c ≤ 122 then c - 32 else if s = false ∧ 65 ≤ c ∧ c ≤ 90 then c + 32 else c
def formGo : Bool → List Int → List Int
  | _, [] => []
  | s, c :: cs => formC s c :: formGo (formC s c == 45) cs

theorem formGo_length (l : List Int) : ∀ s, (formGo s l).length = l.length := by
  induction l with
  | nil => intro s; rfl
  | cons c cs ih => intro s; simp [formGo, ih]

theorem formC_bd {s : Bool} {c : Int} (h0 : 0 ≤ c) (h1 : c ≤ 255) : 0 ≤ formC s c ∧ formC s c ≤ 255 := by
  unfold formC; split
  · omega
  · split <;> omega

/-- accepted exactly where all bytes are tokens and the form leaves it as it is. -/
theorem fixed_go (l : List Int) : ∀ u, canonGo u l = (l.all tokB && (formGo u l == l)) := by
  induction l with
  | nil => intro u; rfl
  | cons c cs ih =>
    intro u
    simp only [List.all_cons, formGo, List.cons_beq_cons]
    by_cases h1 : 65 ≤ c ∧ c ≤ 90
    · rw [canonGo_upper h1.1 h1.2, ih]
      cases u
      · have e : formC false c = c + 32 := by unfold formC; rw [if_neg (by simp), if_pos ⟨rfl, h1⟩]
        have e2 : (c + 32 == c) = false := by simp; omega
        rw [e, e2]; simp
      · have e : formC true c = c := by unfold formC; rw [if_neg (by omega), if_neg (by simp)]
        have e2 : (c == 45) = false := by simp; omega
        have e3 : tokB c = true := by simp [tokB, h1]
        rw [e, e2, e3]; simp
    · by_cases h2 : 97 ≤ c ∧ c ≤ 122
      · rw [canonGo_lower h2.1 h2.2, ih]
        cases u
        · have e : formC false c = c := by unfold formC; rw [if_neg (by simp), if_neg (by omega)]
          have e2 : (c == 45) = false := by simp; omega
          have e3 : tokB c = true := by simp [tokB, h2]
          rw [e, e2, e3]; simp
        · have e : formC true c = c - 32 := by unfold formC; rw [if_pos ⟨rfl, h2⟩]
          have e2 : (c - 32 == c) = false := by simp; omega
          rw [e, e2]; simp
      · have e : formC u c = c := by unfold formC; rw [if_neg (fun h => h2 h.2), if_neg (fun h => h1 h.2)]
        rw [e]
        by_cases h3 : 48 ≤ c ∧ c ≤ 57
        · have e2 : (c == 45) = false := by simp; omega
          have e3 : tokB c = true := by simp [tokB, h3]
          rw [canonGo_digit h3.1 h3.2, ih, e2, e3]; simp
        · by_cases h4 : c = 45
          · subst h4
            rw [canonGo_hyphen, ih]; simp [tokB]
          · have e3 : tokB c = false := by simp [tokB, h4]; omega
            rw [canonGo_other h1 h2 h3 h4, e3]; simp

theorem fixed_law (l : List Int) : canonB l = (!l.isEmpty && l.all tokB && (formGo true l == l)) := by
  unfold canonB; rw [fixed_go, Bool.and_assoc]

/-- The canonical form is accepted exactly where all bytes are tokens. -/
theorem accept_go (l : List Int) : ∀ u, canonGo u (formGo u l) = l.all tokB := by
  induction l with
  | nil => intro u; rfl
  | cons c cs ih =>
    intro u
    simp only [List.all_cons, formGo]
    by_cases h1 : 65 ≤ c ∧ c ≤ 90
    · have e3 : tokB c = true := by simp [tokB, h1]
      cases u
      · have e : formC false c = c + 32 := by unfold formC; rw [if_neg (by simp), if_pos ⟨rfl, h1⟩]
        have e2 : (c + 32 == 45) = false := by simp; omega
        rw [e, e2, canonGo_lower (by omega) (by omega), ih, e3]; simp
      · have e : formC true c = c := by unfold formC; rw [if_neg (by omega), if_neg (by simp)]
        have e2 : (c == 45) = false := by simp; omega
        rw [e, e2, canonGo_upper h1.1 h1.2, ih, e3]
    · by_cases h2 : 97 ≤ c ∧ c ≤ 122
      · have e3 : tokB c = true := by simp [tokB, h2]
        cases u
        · have e : formC false c = c := by unfold formC; rw [if_neg (by simp), if_neg (by omega)]
          have e2 : (c == 45) = false := by simp; omega
          rw [e, e2, canonGo_lower h2.1 h2.2, ih, e3]; simp
        · have e : formC true c = c - 32 := by unfold formC; rw [if_pos ⟨rfl, h2⟩]
          have e2 : (c - 32 == 45) = false := by simp; omega
          rw [e, e2, canonGo_upper (by omega) (by omega), ih, e3]
      · have e : formC u c = c := by unfold formC; rw [if_neg (fun h => h2 h.2), if_neg (fun h => h1 h.2)]
        rw [e]
        by_cases h3 : 48 ≤ c ∧ c ≤ 57
        · have e2 : (c == 45) = false := by simp; omega
          have e3 : tokB c = true := by simp [tokB, h3]
          rw [canonGo_digit h3.1 h3.2, e2, ih, e3]; simp
        · by_cases h4 : c = 45
          · subst h4
            rw [canonGo_hyphen]
            show canonGo true (formGo true cs) = _
            rw [ih]; simp [tokB]
          · have e3 : tokB c = false := by simp [tokB, h4]; omega
            rw [canonGo_other h1 h2 h3 h4, e3]; simp

theorem accept_law (l : List Int) : canonB (formGo true l) = (!l.isEmpty && l.all tokB) := by
  unfold canonB
  rw [accept_go]
  cases l <;> simp [formGo]

/-- A decimal digit. -/
def digB (c : Int) : Bool := decide (48 ≤ c ∧ c ≤ 57)

end Go.Proofs.Qxb6603143a
