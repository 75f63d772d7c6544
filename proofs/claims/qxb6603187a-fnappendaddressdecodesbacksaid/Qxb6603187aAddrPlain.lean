/-
  SEAT b6603187a: THE PLAIN LAWS OF THE ADDRESS FIELD: no Go in sight.
-/
namespace Go.Proofs.Qxb6603187a

/-- A string's bytes as numbers. -/
def dg (s : ByteArray) : List Int := s.data.toList.map (fun c => (c.toNat : Int))
theorem dg_length (s : ByteArray) : (dg s).length = s.size := by simp [dg]
theorem dg_get (s : ByteArray) (k : Nat) (h : k < s.size) : (dg s).getD k 0 = (s[k].toNat : Int) := by
  have h' : k < s.data.size := h
  unfold dg
  rw [List.getD_eq_getElem?_getD, List.getElem?_map, List.getElem?_eq_getElem (by simpa using h')]
  rfl
def digB (c : Int) : Bool := decide (48 ≤ c ∧ c ≤ 57)
theorem dig_of_all {l : List Int} (h : l.all digB = true) (k : Nat) (hk : k < l.length) : 48 ≤ l.getD k 0 ∧ l.getD k 0 ≤ 57 := by
  have := List.all_eq_true.1 h (l[k]) (List.getElem_mem hk)
  have e : l.getD k 0 = l[k] := by simp [List.getD, hk]
  rw [e]
  simpa [digB] using this

/-- The digits two to an octet, the first of each pair in the low four bits; 1111 behind an odd last one. -/
def enc : List Int → List Int
  | [] => []
  | [a] => [240 + (a - 48)]
  | a :: b :: r => ((b - 48) * 16 + (a - 48)) :: enc r

theorem enc_length : ∀ l : List Int, (enc l).length = (l.length + 1) / 2
  | [] => rfl
  | [_] => by simp [enc]
  | a :: b :: r => by
    have := enc_length r
    simp only [enc, List.length_cons, this]
    omega

theorem getD_cons2 (a b : Int) (r : List Int) (k : Nat) : (a :: b :: r).getD (k + 2) 0 = r.getD k 0 := by simp

theorem enc_pair : ∀ (l : List Int) (j : Nat), 2 * j + 1 < l.length → (enc l).getD j 0 = (l.getD (2 * j + 1) 0 - 48) * 16 + (l.getD (2 * j) 0 - 48)
  | [], _, h => by simp at h
  | [_], j, h => by simp at h
  | a :: b :: r, 0, _ => by simp [enc]
  | a :: b :: r, j + 1, h => by
    have ih := enc_pair r j (by simp at h; omega)
    simp only [enc, List.getD_cons_succ]
    rw [ih, show 2 * (j + 1) = 2 * j + 1 + 1 from by omega]
    simp

theorem enc_last : ∀ (l : List Int) (j : Nat), 2 * j + 1 = l.length → (enc l).getD j 0 = 240 + (l.getD (2 * j) 0 - 48)
  | [], _, h => by simp at h
  | [a], j, h => by
    have : j = 0 := by simp at h; omega
    subst this
    simp [enc]
  | a :: b :: r, 0, h => by simp at h
  | a :: b :: r, j + 1, h => by
    have ih := enc_last r j (by simp at h; omega)
    simp only [enc, List.getD_cons_succ]
    rw [ih, show 2 * (j + 1) = 2 * j + 2 from by omega]
    simp

theorem drop_cons' {zs : List Int} {j : Nat} (h : j < zs.length) : zs.drop j = zs.getD j 0 :: zs.drop (j + 1) := by
  rw [List.drop_eq_getElem_cons h]
  simp [List.getD, h]

/-- A round of the encoder. -/
theorem enc_step2 {l : List Int} {i : Nat} (h : i + 1 < l.length) : enc (l.drop i) = ((l.getD (i + 1) 0 - 48) * 16 + (l.getD i 0 - 48)) :: enc (l.drop (i + 2)) := by
  rw [drop_cons' (by omega : i < l.length), drop_cons' h, enc]
theorem enc_step1 {l : List Int} {i : Nat} (h : i + 1 = l.length) : enc (l.drop i) = [240 + (l.getD i 0 - 48)] := by
  rw [drop_cons' (by omega : i < l.length), List.drop_eq_nil_of_le (by omega), enc]

end Go.Proofs.Qxb6603187a
