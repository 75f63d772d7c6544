/-
  SEAT b6603143a: FnCanonicalNameSplitsAtHyphen (5): the walks.
-/
import Derived.Test.Qxb6603143aCanon
namespace Go.Proofs.Qxb6603143a.fnCanonicalNameSplitsAtHyphen
open Go.RowKit

theorem bytes_small (a0 : Option Addr) (len0 cap0 : Nat) (a1 : Option Addr) (len1 cap1 : Nat) (w : World) (h : len0 + len1 ≤ 1048576) :
    Calls Try.prog 15 #[.slice a0 len0 cap0, .slice a1 len1 cap1] w fun e w' => e = .returned (.bool true) ∧ w' = w := by
  go_enter Try.func15, Try.ntmps15
  go_wp2
  go_ret
  exact ⟨rfl, rfl⟩

theorem bytes_great (a0 : Option Addr) (len0 cap0 : Nat) (a1 : Option Addr) (len1 cap1 : Nat) (w : World) (h : ¬ len0 + len1 ≤ 1048576) :
    Calls Try.prog 15 #[.slice a0 len0 cap0, .slice a1 len1 cap1] w fun e w' => e = .returned (.bool false) ∧ w' = w := by
  go_enter Try.func15, Try.ntmps15
  go_wp2
  all_goals
    go_ret
    exact ⟨rfl, rfl⟩

theorem bd_joined {a b : List Int} (ha : ∀ j, 0 ≤ a.getD j 0 ∧ a.getD j 0 ≤ 255) (hb : ∀ j, 0 ≤ b.getD j 0 ∧ b.getD j 0 ≤ 255) (j : Nat) : 0 ≤ (a ++ 45 :: b).getD j 0 ∧ (a ++ 45 :: b).getD j 0 ≤ 255 := by
  rw [List.getD_eq_getElem?_getD]
  by_cases h : j < a.length
  · rw [List.getElem?_append_left h]
    have := ha j
    rwa [List.getD_eq_getElem?_getD] at this
  · rw [List.getElem?_append_right (by omega)]
    match e : j - a.length with
    | 0 => simp
    | k + 1 =>
      rw [List.getElem?_cons_succ]
      have := hb k
      rwa [List.getD_eq_getElem?_getD] at this
theorem law_ee {a b : List Int} (ha : a.length = 0) (hb : b.length = 0) : canonB (a ++ 45 :: b) = true := by
  obtain rfl := List.eq_nil_of_length_eq_zero ha
  obtain rfl := List.eq_nil_of_length_eq_zero hb
  rfl
theorem law_en {a b : List Int} (ha : a.length = 0) (hb : b.length ≠ 0) : canonB (a ++ 45 :: b) = canonB b := by
  obtain rfl := List.eq_nil_of_length_eq_zero ha
  rw [split_law]
  cases b with
  | nil => simp at hb
  | cons => simp
theorem law_ne {a b : List Int} (ha : a.length ≠ 0) (hb : b.length = 0) : canonB (a ++ 45 :: b) = canonB a := by
  obtain rfl := List.eq_nil_of_length_eq_zero hb
  rw [split_law]
  cases a with
  | nil => simp at ha
  | cons => simp
theorem law_nn {a b : List Int} (ha : a.length ≠ 0) (hb : b.length ≠ 0) : canonB (a ++ 45 :: b) = (canonB a && canonB b) := by
  rw [split_law]
  cases a with
  | nil => simp at ha
  | cons =>
    cases b with
    | nil => simp at hb
    | cons => simp

set_option maxHeartbeats 1000000 in
theorem main_way (a0 : Option Addr) (len0 cap0 : Nat) (z0 : List Int) (a1 : Option Addr) (len1 cap1 : Nat) (z1 : List Int) (w : World) (w0 : Bytes w a0 len0 cap0 z0) (w1 : Bytes w a1 len1 cap1 z1)
    (hl0 : len0 ≤ 524288) (hl1 : len1 ≤ 524288) :
    Calls Try.prog 5 #[.slice a0 len0 cap0, .slice a1 len1 cap1] w fun e w' => e = .returned (.bool true) ∧ Below w.heap.size w w' := by
  obtain ⟨i0, hi, hz0, hz1, hz2⟩ := info_parts Try.info5
  go_enter Try.func5, Try.ntmps5
  go_wp2_with fail
  refine (bytes_small a0 len0 cap0 a1 len1 cap1 _ (by omega)).mono ?_
  rintro e w' ⟨rfl, hw⟩
  have hw := hw.symm
  subst hw
  go_wp2_with fail
  refine (clone_any a0 len0 cap0 z0 _ w0 (by omega)).mono ?_
  rintro e wa ⟨aa, ca, rfl, Ba, ba⟩
  go_wp2_with fail
  refine (clone_any a1 len1 cap1 z1 _ (w1.later ba) (by omega)).mono ?_
  rintro e wb ⟨ab, cb, rfl, Bb, bb⟩
  have BA : Hid (Bytes wb aa len0 ca z0) := Ba.later bb
  have BB : Hid (Bytes wb ab len1 cb z1) := Bb
  have BE : Hid (Below w.heap.size w wb) := ba.trans (bb.mono ba.size)
  clear Ba Bb ba bb w0 w1
  go_wp2_with (at_make; refine wpList_make_own _ rfl _ _ 22 rfl wb.heap.size 5 i0 (.int .u8 0) 1 Try.underlying22 hi hz0 hz1 _ _ _ (len0 + 1 + len1) rfl rfl (by omega) ?b2 ?b3 (Nat.le_refl _) ?_)
  case b2 => rw [hz2]; omega
  case b3 => unfold maxLen; omega
  intro wm hown0 hgrow0
  have bm : Hid (Below wb.heap.size wb wm) := (Below.refl _ _).grown hgrow0 (Nat.le_refl _) (fun k h => by cases h)
  clear hgrow0
  go_wp2_with (at_builtin; refine wpList_append_fits_any _ rfl (.tmp 31) (.tmp 32) 22 rfl wb.heap.size 5 i0 1 Try.underlying22 hi hz1 wb.heap.size 0 (len0 + 1 + len1) _ rfl hown0 _ len0 _ (z0.map (Value.int .u8)) rfl ?n1 ?n2 ?n3 (ints_oneCell _ _) (by omega) ?_)
  case n1 => simp [BA.out.length]
  case n2 => exact BA.out.nil
  case n3 => exact (BA.out.later bm.out).news
  intro w1 hown1 hgrow1
  have b1 : Hid (Below wb.heap.size wb w1) := bm.out.grown hgrow1 bm.out.size (fun k h => by cases h; exact Nat.le_refl _)
  clear hgrow1 hown0 bm
  go_wp2_with (at_builtin; refine wpList_append_fits _ rfl (.tmp 34) (.tmp 35) 22 rfl wb.heap.size 5 i0 1 Try.underlying22 hi hz1 wb.heap.size len0 (len0 + 1 + len1) _ rfl (hown1.alloc _) ⟨w1.heap.size, 0, none⟩ 1 1 [.int .u8 45] rfl rfl ?m1 ?m2 (by omega) ?_)
  case m1 =>
    intro j u hj
    match j, hj with
    | 0, hj => simp at hj; subst hj; simp [Addr.add]
  case m2 => intro u hu; simp at hu; subst hu; rfl
  intro w2 hown2 hgrow2
  have b2 : Hid (Below wb.heap.size wb w2) := (b1.out.alloc b1.out.size _).grown hgrow2 (by simp; have := b1.out.size; omega) (fun k h => by cases h; exact Nat.le_refl _)
  clear hgrow2 hown1 b1
  go_wp2_with (at_builtin; refine wpList_append_fits_any _ rfl (.tmp 37) (.tmp 38) 22 rfl wb.heap.size 5 i0 1 Try.underlying22 hi hz1 wb.heap.size (len0 + 1) (len0 + 1 + len1) _ rfl hown2 _ len1 _ (z1.map (Value.int .u8)) rfl ?l1 ?l2 ?l3 (ints_oneCell _ _) (by omega) ?_)
  case l1 => simp [BB.out.length]
  case l2 => exact BB.out.nil
  case l3 => exact (BB.out.later b2.out).news
  intro w3 hown3 hgrow3
  have b3 : Hid (Below wb.heap.size wb w3) := b2.out.grown hgrow3 b2.out.size (fun k h => by cases h; exact Nat.le_refl _)
  clear hgrow3 hown2 b2
  have BA3 : Hid (Bytes w3 aa len0 ca z0) := BA.out.later b3.out
  have BB3 : Hid (Bytes w3 ab len1 cb z1) := BB.out.later b3.out
  have BJ3 : Hid (Bytes w3 (some ⟨wb.heap.size, 0, none⟩) (len0 + 1 + len1) (len0 + 1 + len1) (z0 ++ 45 :: z1)) :=
    bytes_of_owned (by simpa using hown3) (bd_joined BA.out.bd BB.out.bd)
  have BE3 : Hid (Below w.heap.size w w3) := BE.out.trans (b3.out.mono BE.out.size)
  have L0 : Hid (z0.length = len0) := BA.out.length
  have L1 : Hid (z1.length = len1) := BB.out.length
  clear BA BB BE b3 hown3
  by_cases h0 : len0 = 0
  all_goals by_cases h1 : len1 = 0
  · have q0 : ((len0 : Int) == 0) = true := by simp [h0]
    have q1 : ((len1 : Int) == 0) = true := by simp [h1]
    have HL : Hid (canonB (z0 ++ 45 :: z1) = true) := law_ee (L0.out.trans h0) (L1.out.trans h1)
    clear h0 h1 L0 L1
    go_wp2_with fail
    refine (zzCanonicalName_any _ _ _ _ _ BJ3.out (by omega)).mono ?_
    rintro e w' ⟨rfl, hw⟩
    have hw := hw.symm
    subst hw
    go_wp2
    go_ret
    exact ⟨ret_bool (by simp [HL.out]), BE3.out⟩
  · have q0 : ((len0 : Int) == 0) = true := by simp [h0]
    have q1 : ((len1 : Int) == 0) = false := by simp [h1]
    have HL : Hid (canonB (z0 ++ 45 :: z1) = canonB z1) := law_en (L0.out.trans h0) (by rw [L1.out]; exact h1)
    clear h0 h1 L0 L1
    go_wp2_with fail
    refine (zzCanonicalName_any _ _ _ _ _ BB3.out (by omega)).mono ?_
    rintro e w' ⟨rfl, hw⟩
    have hw := hw.symm
    subst hw
    go_wp2_with fail
    refine (zzCanonicalName_any _ _ _ _ _ BJ3.out (by omega)).mono ?_
    rintro e w' ⟨rfl, hw⟩
    have hw := hw.symm
    subst hw
    go_wp2
    go_ret
    exact ⟨ret_bool (by simp [HL.out]), BE3.out⟩
  · have q0 : ((len0 : Int) == 0) = false := by simp [h0]
    have q1 : ((len1 : Int) == 0) = true := by simp [h1]
    have HL : Hid (canonB (z0 ++ 45 :: z1) = canonB z0) := law_ne (by rw [L0.out]; exact h0) (L1.out.trans h1)
    clear h0 h1 L0 L1
    go_wp2_with fail
    refine (zzCanonicalName_any _ _ _ _ _ BA3.out (by omega)).mono ?_
    rintro e w' ⟨rfl, hw⟩
    have hw := hw.symm
    subst hw
    go_wp2_with fail
    refine (zzCanonicalName_any _ _ _ _ _ BJ3.out (by omega)).mono ?_
    rintro e w' ⟨rfl, hw⟩
    have hw := hw.symm
    subst hw
    go_wp2
    all_goals
      go_ret
      exact ⟨ret_bool (by rw [HL.out]; simp_all), BE3.out⟩
  · have q0 : ((len0 : Int) == 0) = false := by simp [h0]
    have q1 : ((len1 : Int) == 0) = false := by simp [h1]
    have HL : Hid (canonB (z0 ++ 45 :: z1) = (canonB z0 && canonB z1)) := law_nn (by rw [L0.out]; exact h0) (by rw [L1.out]; exact h1)
    clear h0 h1 L0 L1
    go_wp2_with fail
    refine (zzCanonicalName_any _ _ _ _ _ BA3.out (by omega)).mono ?_
    rintro e w' ⟨rfl, hw⟩
    have hw := hw.symm
    subst hw
    go_wp2_with fail
    refine (zzCanonicalName_any _ _ _ _ _ BB3.out (by omega)).mono ?_
    rintro e w' ⟨rfl, hw⟩
    have hw := hw.symm
    subst hw
    go_wp2_with fail
    refine (zzCanonicalName_any _ _ _ _ _ BJ3.out (by omega)).mono ?_
    rintro e w' ⟨rfl, hw⟩
    have hw := hw.symm
    subst hw
    go_wp2
    all_goals
      go_ret
      exact ⟨ret_bool (by rw [HL.out]; simp_all), BE3.out⟩

end Go.Proofs.Qxb6603143a.fnCanonicalNameSplitsAtHyphen
