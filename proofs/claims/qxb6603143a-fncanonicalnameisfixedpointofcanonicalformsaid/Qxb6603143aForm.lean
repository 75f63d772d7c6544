/-
  SEAT b6603143a: zzSrvB1CanonicalForm (13), zzSrvB1IsTokenByte (22), zzSrvB1AllToken (14).
-/
import Derived.Test.Qxb6603143aCanon
namespace Go.Proofs.Qxb6603143a
open Go.RowKit

theorem form_bd (l : List Int) : ∀ s, (∀ j, 0 ≤ l.getD j 0 ∧ l.getD j 0 ≤ 255) → ∀ j, 0 ≤ (formGo s l).getD j 0 ∧ (formGo s l).getD j 0 ≤ 255 := by
  induction l with
  | nil => intro s _ j; simp [formGo]
  | cons c cs ih =>
    intro s h j
    have h0 := h 0
    simp only [List.getD_cons_zero] at h0
    have hs : ∀ j, 0 ≤ cs.getD j 0 ∧ cs.getD j 0 ≤ 255 := fun j => by have := h (j + 1); simpa using this
    simp only [formGo]
    cases j with
    | zero => simp only [List.getD_cons_zero]; exact formC_bd h0.1 h0.2
    | succ j => simp only [List.getD_cons_succ]; exact ih _ hs j

theorem form_step {F zs : List Int} {k : Nat} {st : Bool} (hF : F.length = zs.length) (hk : k < zs.length) (h : F.drop k = formGo st (zs.drop k)) :
    F.getD k 0 = formC st (zs.getD k 0) ∧ F.drop (k + 1) = formGo (formC st (zs.getD k 0) == 45) (zs.drop (k + 1)) := by
  rw [drop_cons (by omega : k < F.length), drop_cons hk, formGo] at h
  exact ⟨(List.cons.inj h).1, (List.cons.inj h).2⟩

set_option maxHeartbeats 1600000 in
theorem form_any (ao : Option Addr) (len cap : Nat) (zs : List Int) (w : World) (hB : Bytes w ao len cap zs) (hlen : len ≤ 1048576) :
    Calls Try.prog 13 #[.slice ao len cap] w fun e w' => ∃ ao' cap', e = .returned (.slice ao' len cap') ∧ Bytes w' ao' len cap' (formGo true zs) ∧ Below w.heap.size w w' := by
  obtain ⟨i0, hi, hz0, hz1, hz2⟩ := info_parts Try.info5
  have H : Hid (Bytes w ao len cap zs) := hB
  obtain ⟨F, HF⟩ : ∃ F, Hid (formGo true zs = F) := ⟨_, rfl⟩
  have HL : Hid (F.length = len) := by show _ = _; rw [← HF.out, formGo_length, hB.length]
  have H0 : Hid (F.drop 0 = formGo true (zs.drop 0)) := by show _ = _; rw [← HF.out]; rfl
  have HBD : Hid (∀ j, 0 ≤ F.getD j 0 ∧ F.getD j 0 ≤ 255) := by have := form_bd zs true hB.bd; rw [HF.out] at this; exact this
  rw [HF.out]
  clear hB HF
  go_enter Try.func13, Try.ntmps13
  go_wp2_with (at_make; refine wpList_make_full _ rfl _ _ 22 rfl w.heap.size 5 i0 (.int .u8 0) 1 Try.underlying22 hi hz0 hz1 _ _ _ _ len rfl rfl rfl rfl ?b2 ?b3 (Nat.le_refl _) ?_)
  case b2 => rw [hz2]; omega
  case b3 => unfold maxLen; omega
  intro w0 hown0 hgrow0
  rw [← rowAt_zero F len] at hown0
  go_wp2
  go_loopw [4, 5] (fun u i wr => ∃ (k : Nat) (st : Bool), k ≤ len ∧ i = .int .i64 k ∧ u = .bool st ∧ Hid (F.drop k = formGo st (zs.drop k)) ∧ wr.ownsRow w.heap.size 5 1 (.slice (some ⟨w.heap.size, 0, none⟩) len len) len (rowAt F k len) ∧ Below w.heap.size w wr)
    (fun _ i _ => len - (intOf i).toNat)
  case atStart => exact ⟨0, true, Nat.zero_le _, rfl, rfl, H0, hown0, (Below.refl _ _).grown hgrow0 (Nat.le_refl _) (fun k h => by cases h)⟩
  case round =>
    obtain ⟨k, st, hk, rfl, rfl, HS, hown, hbel⟩ := hrel
    clear hown0 hgrow0 H0
    by_cases hlt : k < len
    · obtain ⟨b, off, rfl, hc⟩ := H.out.cells (by omega)
      have hbd := H.out.bd k
      have hst := form_step (HL.out.trans H.out.length.symm) (by rw [H.out.length]; exact hlt) HS.out
      have hck : wr.cell? ⟨b, off + k, none⟩ = some (.int .u8 (zs.getD k 0)) := cell_later hbel (hc k hlt)
      have hco : wr.cell? ⟨w.heap.size, k, none⟩ = some (.int .u8 0) := by rw [hown.cellAt k (by omega), rowAt_get HL.out hlt]
      have hfo : wr.frozen? ⟨w.heap.size, k, none⟩ = false := hown.frozenAt k
      obtain ⟨c, HCe⟩ : ∃ c, Hid (zs.getD k 0 = c) := ⟨_, rfl⟩
      rw [HCe.out] at hck hbd hst
      obtain ⟨hb0, hb1⟩ := hbd
      have HB : Hid (∀ y : Int, y = formC st c → (wr.setCell ⟨w.heap.size, k, none⟩ (.int .u8 y)).ownsRow w.heap.size 5 1 (.slice (some ⟨w.heap.size, 0, none⟩) len len) len (rowAt F (k + 1) len) ∧ Below w.heap.size w (wr.setCell ⟨w.heap.size, k, none⟩ (.int .u8 y)) ∧ F.drop (k + 1) = formGo (y == 45) (zs.drop (k + 1))) := by
        intro y hy
        subst hy
        have HO := hown.stored k (.int .u8 (formC st c))
        rw [rowAt_set HL.out hlt _ hst.1.symm] at HO
        exact ⟨HO.1, hbel.setCell (p := ⟨w.heap.size, k, none⟩) (Nat.le_refl _) _, hst.2⟩
      clear hown hbel hc hst HS
      have hy : Hid (formC st c = if st = true ∧ 97 ≤ c ∧ c ≤ 122 then c - 32 else if st = false ∧ 65 ≤ c ∧ c ≤ 90 then c + 32 else c) := by show _ = _; rfl
      cases st
      · rcases (show (65 ≤ c ∧ c ≤ 90) ∨ c < 65 ∨ 90 < c from by omega) with ⟨h1, h2⟩ | h1 | h1
        · have T := HB.out (c - 65 + 97) (by rw [hy.out, if_neg (by simp), if_pos ⟨rfl, h1, h2⟩]; omega)
          have HT : Hid (_ ∧ _ ∧ _) := T
          clear T HB hy
          go_wp2
          go_roundw
          case rel => exact ⟨k + 1, _, by omega, by go_num, rfl, HT.out.2.2, HT.out.1, HT.out.2.1⟩
          case measure => simp [intOf]; omega
        all_goals
          have T := HB.out c (by rw [hy.out, if_neg (by simp), if_neg (by omega)])
          have HT : Hid (_ ∧ _ ∧ _) := T
          clear T HB hy
          go_wp2
          go_roundw
          case rel => exact ⟨k + 1, _, by omega, by go_num, rfl, HT.out.2.2, HT.out.1, HT.out.2.1⟩
          case measure => simp [intOf]; omega
      · rcases (show (97 ≤ c ∧ c ≤ 122) ∨ c < 97 ∨ 122 < c from by omega) with ⟨h1, h2⟩ | h1 | h1
        · have T := HB.out (c - 97 + 65) (by rw [hy.out, if_pos ⟨rfl, h1, h2⟩]; omega)
          have HT : Hid (_ ∧ _ ∧ _) := T
          clear T HB hy
          go_wp2
          go_roundw
          case rel => exact ⟨k + 1, _, by omega, by go_num, rfl, HT.out.2.2, HT.out.1, HT.out.2.1⟩
          case measure => simp [intOf]; omega
        all_goals
          have T := HB.out c (by rw [hy.out, if_neg (by omega), if_neg (by simp)])
          have HT : Hid (_ ∧ _ ∧ _) := T
          clear T HB hy
          go_wp2
          go_roundw
          case rel => exact ⟨k + 1, _, by omega, by go_num, rfl, HT.out.2.2, HT.out.1, HT.out.2.1⟩
          case measure => simp [intOf]; omega
    · obtain rfl : k = len := by omega
      rw [rowAt_full HL.out] at hown
      go_wp2
      go_ret
      exact ⟨_, _, rfl, bytes_of_owned hown HBD.out, hbel⟩

theorem tok_any (c : Int) (w : World) :
    Calls Try.prog 22 #[.int .u8 c] w fun e w' => e = .returned (.bool (tokB c)) ∧ w' = w := by
  rcases (show c < 45 ∨ c = 45 ∨ (45 < c ∧ c < 48) ∨ (48 ≤ c ∧ c ≤ 57) ∨ (57 < c ∧ c < 65) ∨ (65 ≤ c ∧ c ≤ 90) ∨ (90 < c ∧ c < 97) ∨ (97 ≤ c ∧ c ≤ 122) ∨ 122 < c from by omega) with h | rfl | ⟨h, h'⟩ | ⟨h, h'⟩ | ⟨h, h'⟩ | ⟨h, h'⟩ | ⟨h, h'⟩ | ⟨h, h'⟩ | h
  all_goals
    go_enter Try.func22, Try.ntmps22
    go_wp2
    go_ret
    exact ⟨ret_bool (by rw [Bool.eq_iff_iff]; simp [tokB]; try omega), rfl⟩

set_option maxHeartbeats 1600000 in
theorem allTok_any (ao : Option Addr) (len cap : Nat) (zs : List Int) (w : World) (hB : Bytes w ao len cap zs) (hlen : len ≤ 4194304) :
    Calls Try.prog 14 #[.slice ao len cap] w fun e w' => e = .returned (.bool (zs.all tokB)) ∧ w' = w := by
  have H : Hid (Bytes w ao len cap zs) := hB
  have H0 : Hid (zs.all tokB = (zs.drop 0).all tokB) := by show _ = _; rfl
  clear hB
  go_enter Try.func14, Try.ntmps14
  go_wp2
  go_loop [3] (fun i => ∃ (k : Nat), k ≤ len ∧ i = .int .i64 k ∧ Hid (zs.all tokB = (zs.drop k).all tokB)) (fun i => len - (intOf i).toNat)
  case atStart => exact ⟨0, Nat.zero_le _, rfl, H0⟩
  case round =>
    obtain ⟨k, hk, rfl, HR⟩ := hrel
    clear H0
    by_cases hlt : k < len
    · obtain ⟨b, off, rfl, hc⟩ := H.out.cells (by omega)
      have hck := hc k hlt
      have HR2 : Hid (zs.all tokB = (tokB (zs.getD k 0) && (zs.drop (k + 1)).all tokB)) := by
        show _ = _
        rw [HR.out, drop_cons (by rw [H.out.length]; exact hlt), List.all_cons]
      obtain ⟨c, HCe⟩ : ∃ c, Hid (zs.getD k 0 = c) := ⟨_, rfl⟩
      rw [HCe.out] at hck HR2
      have HT := (tok_any c w)
      obtain ⟨t, ht⟩ : ∃ t, Hid (tokB c = t) := ⟨_, rfl⟩
      rw [ht.out] at HR2 HT
      have HT2 : Hid (Calls Try.prog 22 #[.int .u8 c] w fun e w' => e = .returned (.bool t) ∧ w' = w) := HT
      clear HR hc HT
      cases t
      · go_wp2_with (go_at_call 22; refine HT2.out.mono ?_; rintro e w' ⟨rfl, rfl⟩)
        go_ret
        exact ⟨ret_bool HR2.out.symm, rfl⟩
      · go_wp2_with (go_at_call 22; refine HT2.out.mono ?_; rintro e w' ⟨rfl, rfl⟩)
        go_round
        case rel => exact ⟨k + 1, by omega, by go_num, HR2⟩
        case measure => simp [intOf]; omega
    · have hz2 : zs.drop k = [] := List.drop_eq_nil_of_le (by rw [H.out.length]; omega)
      have HR2 : Hid (zs.all tokB = true) := by
        show _ = _
        rw [HR.out, hz2]; rfl
      clear HR hz2
      go_wp2
      go_ret
      exact ⟨ret_bool HR2.out.symm, rfl⟩

end Go.Proofs.Qxb6603143a
