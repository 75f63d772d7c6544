/-
  SEAT b6603143a: zzSrvB1BytesEqual (21), zzSrvB1CanonicalModel (11), FnCanonicalNameIsFixedPointOfCanonicalForm (3): the walks.
-/
import Derived.Test.Qxb6603143aForm
namespace Go.Proofs.Qxb6603143a
open Go.RowKit

set_option maxHeartbeats 1600000 in
theorem equal_any (ao ao2 : Option Addr) (len cap cap2 : Nat) (xs ys : List Int) (w : World) (hB : Bytes w ao len cap xs) (hB2 : Bytes w ao2 len cap2 ys) (hlen : len ≤ 4194304) :
    Calls Try.prog 21 #[.slice ao len cap, .slice ao2 len cap2] w fun e w' => e = .returned (.bool (xs == ys)) ∧ Below w.heap.size w w' := by
  have H : Hid (Bytes w ao len cap xs) := hB
  have H2 : Hid (Bytes w ao2 len cap2 ys) := hB2
  have H0 : Hid ((xs == ys) = (xs.drop 0 == ys.drop 0)) := by show _ = _; rfl
  clear hB hB2
  go_enter Try.func21, Try.ntmps21
  go_wp2
  go_loopw [5] (fun i wr => ∃ (k : Nat), k ≤ len ∧ i = .int .i64 k ∧ Hid ((xs == ys) = (xs.drop k == ys.drop k)) ∧ Below w.heap.size w wr) (fun i _ => len - (intOf i).toNat)
  case atStart => exact ⟨0, Nat.zero_le _, rfl, H0, Below.refl _ _⟩
  case round =>
    obtain ⟨k, hk, rfl, HR, hbel⟩ := hrel
    clear H0
    by_cases hlt : k < len
    · obtain ⟨b, off, rfl, hc⟩ := H.out.cells (by omega)
      obtain ⟨b2, off2, rfl, hc2⟩ := H2.out.cells (by omega)
      have hck : wr.cell? ⟨b, off + k, none⟩ = some (.int .u8 (xs.getD k 0)) := cell_later hbel (hc k hlt)
      have hck2 : wr.cell? ⟨b2, off2 + k, none⟩ = some (.int .u8 (ys.getD k 0)) := cell_later hbel (hc2 k hlt)
      have HR2 : Hid ((xs == ys) = (xs.getD k 0 == ys.getD k 0 && xs.drop (k + 1) == ys.drop (k + 1))) := by
        show _ = _
        rw [HR.out, drop_cons (zs := xs) (j := k) (by rw [H.out.length]; exact hlt), drop_cons (zs := ys) (j := k) (by rw [H2.out.length]; exact hlt), List.cons_beq_cons]
      obtain ⟨c, HCe⟩ : ∃ c, Hid (xs.getD k 0 = c) := ⟨_, rfl⟩
      obtain ⟨d, HDe⟩ : ∃ d, Hid (ys.getD k 0 = d) := ⟨_, rfl⟩
      rw [HCe.out] at hck HR2
      rw [HDe.out] at hck2 HR2
      have HBE : Hid (Below w.heap.size w wr) := hbel
      have hlt' : (k : Int) < (len : Int) := by omega
      clear HR hc hc2 hbel
      by_cases hcd : c = d
      · subst hcd
        go_wp2
        go_region
        all_goals
          go_wp2
          go_roundw
          case rel => exact ⟨k + 1, by omega, by go_num, (by show _ = _; rw [HR2.out]; simp), HBE.out.drew⟩
          case measure => simp [intOf]; omega
      · have hne : (c != d) = true := by simp [hcd]
        clear hcd
        go_wp2
        go_region
        all_goals
          go_wp2
          go_ret
          exact ⟨ret_bool (by rw [HR2.out]; simp at hne; simp [hne]), HBE.out.drew⟩
    · have hz2 : xs.drop k = [] := List.drop_eq_nil_of_le (by rw [H.out.length]; omega)
      have hz3 : ys.drop k = [] := List.drop_eq_nil_of_le (by rw [H2.out.length]; omega)
      have HR2 : Hid ((xs == ys) = true) := by
        show _ = _
        rw [HR.out, hz2, hz3]; rfl
      clear HR hz2 hz3
      go_wp2
      go_ret
      exact ⟨ret_bool HR2.out.symm, hbel⟩

theorem model_any (ao : Option Addr) (len cap : Nat) (zs : List Int) (w : World) (hB : Bytes w ao len cap zs) (hlen : len ≤ 1048576) :
    Calls Try.prog 11 #[.slice ao len cap] w fun e w' => e = .returned (.bool (canonB zs)) ∧ Below w.heap.size w w' := by
  have HL : Hid (canonB zs = (!zs.isEmpty && zs.all tokB && (formGo true zs == zs))) := fixed_law zs
  by_cases h0 : len = 0
  · subst h0
    obtain rfl : zs = [] := List.eq_nil_of_length_eq_zero hB.length
    clear hB HL
    go_enter Try.func11, Try.ntmps11
    go_wp2_with fail
    go_ret
    exact ⟨rfl, Below.refl _ _⟩
  · have hz : (0 : Int) < (len : Int) := by omega
    have HE : Hid (zs.isEmpty = false) := by
      show _ = _
      have := hB.length
      cases zs with
      | nil => simp at this; omega
      | cons c cs => rfl
    have HT := allTok_any ao len cap zs w hB (by omega)
    obtain ⟨t, ht⟩ : ∃ t, Hid (zs.all tokB = t) := ⟨_, rfl⟩
    rw [ht.out] at HT
    have HT2 : Hid (Calls Try.prog 14 #[.slice ao len cap] w fun e w' => e = .returned (.bool t) ∧ w' = w) := HT
    clear HT
    cases t
    · go_enter Try.func11, Try.ntmps11
      go_wp2_with (go_at_call 14; refine HT2.out.mono ?_; rintro e w' ⟨rfl, rfl⟩)
      go_ret
      exact ⟨ret_bool (by rw [HL.out, ht.out]; simp), Below.refl _ _⟩
    · go_enter Try.func11, Try.ntmps11
      go_wp2_with fail
      refine HT2.out.mono ?_
      rintro e w' ⟨rfl, hw⟩
      have hw := hw.symm
      subst hw
      go_wp2_with fail
      refine (form_any ao len cap zs _ hB hlen).mono ?_
      rintro e wb ⟨ab, cb, rfl, Bb, bb⟩
      go_wp2_with fail
      refine (equal_any ab ao len cb cap _ zs _ Bb (hB.later bb) (by omega)).mono ?_
      rintro e wc ⟨rfl, bc⟩
      have BE : Hid (Below w.heap.size w wc) := bb.trans (bc.mono bb.size)
      clear bb bc Bb hB
      go_wp2_with fail
      go_ret
      exact ⟨ret_bool (by rw [HL.out, ht.out, HE.out]; simp), BE.out⟩

theorem small8 (a0 : Option Addr) (len0 cap0 : Nat) (w : World) (h : len0 ≤ 1048576) :
    Calls Try.prog 8 #[.slice a0 len0 cap0] w fun e w' => e = .returned (.bool true) ∧ w' = w := by
  go_enter Try.func8, Try.ntmps8
  go_wp2
  go_ret
  exact ⟨rfl, rfl⟩
theorem great8 (a0 : Option Addr) (len0 cap0 : Nat) (w : World) (h : ¬ len0 ≤ 1048576) :
    Calls Try.prog 8 #[.slice a0 len0 cap0] w fun e w' => e = .returned (.bool false) ∧ w' = w := by
  go_enter Try.func8, Try.ntmps8
  go_wp2
  all_goals
    go_ret
    exact ⟨rfl, rfl⟩

theorem fixed_great (a0 : Option Addr) (len0 cap0 : Nat) (w : World) (h : ¬ len0 ≤ 1048576) :
    Calls Try.prog 3 #[.slice a0 len0 cap0] w fun e w' => e = .returned (.bool true) ∧ Below w.heap.size w w' := by
  go_enter Try.func3, Try.ntmps3
  go_wp2_with (go_at_call 8; refine (great8 a0 len0 cap0 _ h).mono ?_; rintro e w' ⟨rfl, rfl⟩)
  go_ret
  exact ⟨rfl, Below.refl _ _⟩

theorem fixed_small (a0 : Option Addr) (len0 cap0 : Nat) (z0 : List Int) (w : World) (w0 : Bytes w a0 len0 cap0 z0) (h : len0 ≤ 1048576) :
    Calls Try.prog 3 #[.slice a0 len0 cap0] w fun e w' => e = .returned (.bool true) ∧ Below w.heap.size w w' := by
  go_enter Try.func3, Try.ntmps3
  go_wp2_with fail
  refine (small8 a0 len0 cap0 _ h).mono ?_
  rintro e w' ⟨rfl, hw⟩
  have hw := hw.symm
  subst hw
  go_wp2_with fail
  refine (clone_any a0 len0 cap0 z0 _ w0 (by omega)).mono ?_
  rintro e wa ⟨aa, ca, rfl, Ba, ba⟩
  have BA : Hid (Bytes wa aa len0 ca z0) := Ba
  have BE : Hid (Below w.heap.size w wa) := ba
  clear Ba ba w0
  go_wp2_with fail
  refine (zzCanonicalName_any _ _ _ _ _ BA.out (by omega)).mono ?_
  rintro e w' ⟨rfl, hw⟩
  have hw := hw.symm
  subst hw
  go_wp2_with fail
  refine (model_any _ _ _ _ _ BA.out (by omega)).mono ?_
  rintro e wb ⟨rfl, bb⟩
  have BE2 : Hid (Below w.heap.size w wb) := BE.out.trans (bb.mono BE.out.size)
  clear bb BE
  go_wp2_with fail
  go_ret
  exact ⟨ret_bool (by simp), BE2.out⟩

end Go.Proofs.Qxb6603143a
